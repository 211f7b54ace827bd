import JvmDerived
import JvmDerived.Pilot.@@N@@Statement
import JvmDerived.Pilot.@@N@@Code
set_option linter.unusedVariables false
set_option linter.unusedSimpArgs false
namespace Jvm.Own
open Jvm Jvm.ClassFile Sem Op Lib Jvm.Free Jvm.Stand Jvm.LawKit Jvm.RoadKit
/-! MY LAYER: a goal 'Wk' over the library's Stand (from any state that stands here with the heap h, the walk comes to its end and Q holds), one rule a step; W: may the walk intern (wide frame). -/
def Bs (W : Bool) (s : State) (vm0 : Vm) (sz : Nat) : Prop := match W with
  | false => vm0 = s.vm
  | true => ∃ k0, s.Since vm0 k0 ∧ k0 ≤ sz
def En (W : Bool) (s : State) (o : Outcome) (t : State) (L : List Loc) (k n : Nat) : Prop := match W with
  | false => FrameEnd s o t L k n
  | true => ReturnedEndW s o t L k n
def Cx (Z : State) (p : Program) (s : State) (m : MethodId) (meth : Method) (c : Code) (y : MethodName) (bytes : ByteArray) (maxL : Nat) (ret : Option FieldType) : Prop :=
  p.tables.exec = Jvm.exec ∧ c.code = bytes ∧ c.maxLocals = maxL ∧ Z.Warmed39 s.vm ∧ s.vm.findClass y.cls = some m.cls ∧ meth.name = y.name ∧ meth.sig.returnType = ret ∧ meth.locks = false
def Wk (W : Bool) (p : Program) (l : Launch) (e : Env) (R : Room) (s : State) (m : MethodId) (args : Array Value) (below : List Frame) (meth : Method) (c : Code) (n0 : Nat) (Q : Option Value → Heap → Prop) (h : Heap) (k n : Nat) (g : JFrame) : Prop :=
  ∀ T L vm0, Stand p l e R (s.setVm vm0) m args below meth c T L k n → Bs W s vm0 h.size → T.heap = h → Fr n0 L →
    ∃ s₂ o, Steps p.tables e below (T.setTop g) s₂ ∧ s₂.status = .running ∧ Ended s₂ below o ∧ ∃ v L, o = .returned v ∧ (Q v s₂.heap ∧ Fr n0 L) ∧ En W s o s₂ L R.cells R.slots
def Met (W : Bool) (l : Launch) (Z : State) (n0 : Nat) (y : MethodName) (bytes : ByteArray) (maxL : Nat) (ret : Option FieldType) (rm : Room) (as : Array Value) (h : Heap) (Q : Option Value → Heap → Prop) : Prop :=
  ∀ ws, MetFree l y (head1 (Cond.code y bytes maxL ret :: ws) rm) (fun a U => a = as ∧ Z.Warmed39 U.vm ∧ U.heap = h) (fun _ _ _ _ _ => True)
    (fun _ U o U' => ∃ v L, o = .returned v ∧ (Q v U'.heap ∧ Fr n0 L) ∧ En W U o U' L rm.cells rm.slots)
theorem Bs.start (W : Bool) (s : State) (sz : Nat) : Bs W s s.vm sz := by
  cases W
  · rfl
  · exact ⟨0, (State.WarmedH.refl s).since 0, Nat.zero_le _⟩
theorem Bs.mono {W : Bool} {s : State} {vm0 : Vm} {a b : Nat} (B : Bs W s vm0 a) (q : a ≤ b) : Bs W s vm0 b := by
  cases W
  · exact B
  · obtain ⟨k0, h1, h2⟩ := B; exact ⟨k0, h1, Nat.le_trans h2 q⟩
theorem Bs.warm {W : Bool} {s : State} {vm0 : Vm} {a : Nat} (B : Bs W s vm0 a) : s.Warmed39 vm0 := by
  cases W
  · cases (B : vm0 = s.vm); exact State.Warmed39.refl s
  · obtain ⟨k0, h1, h2⟩ := B; exact h1.1
section Cxs
variable {W : Bool} {Z : State} {p : Program} {s : State} {m : MethodId} {meth : Method} {c : Code} {y : MethodName} {bytes : ByteArray} {maxL : Nat} {ret : Option FieldType}
theorem Cx.hx (C : Cx Z p s m meth c y bytes maxL ret) : p.tables.exec = Jvm.exec := C.1
theorem Cx.hby (C : Cx Z p s m meth c y bytes maxL ret) : c.code = bytes := C.2.1
theorem Cx.hml (C : Cx Z p s m meth c y bytes maxL ret) : c.maxLocals = maxL := C.2.2.1
theorem Cx.hZ (C : Cx Z p s m meth c y bytes maxL ret) : Z.Warmed39 s.vm := C.2.2.2.1
theorem Cx.hown (C : Cx Z p s m meth c y bytes maxL ret) : s.vm.findClass y.cls = some m.cls := C.2.2.2.2.1
theorem Cx.hnm (C : Cx Z p s m meth c y bytes maxL ret) : meth.name = y.name := C.2.2.2.2.2.1
theorem Cx.hret (C : Cx Z p s m meth c y bytes maxL ret) : meth.sig.returnType = ret := C.2.2.2.2.2.2.1
theorem Cx.hlk (C : Cx Z p s m meth c y bytes maxL ret) : meth.locks = false := C.2.2.2.2.2.2.2
theorem Cx.wZ (C : Cx Z p s m meth c y bytes maxL ret) {vm0 : Vm} {a : Nat} (B : Bs W s vm0 a) : Z.Warmed39 (s.setVm vm0).vm := State.Warmed39.trans (t := s) C.hZ B.warm
theorem Cx.wo (C : Cx Z p s m meth c y bytes maxL ret) {vm0 : Vm} {a : Nat} (B : Bs W s vm0 a) : (s.setVm vm0).vm.findClass y.cls = some m.cls := by
  show vm0.findClass y.cls = _
  rw [B.warm.alike.findClass]; exact C.hown
end Cxs
theorem Met.of {W : Bool} {l : Launch} {Z : State} {n0 : Nat} {y : MethodName} {bytes : ByteArray} {maxL : Nat} {ret : Option FieldType} {rm : Room} {as : Array Value} {h : Heap} {Q : Option Value → Heap → Prop}
    (hpn : plainName y.cls = true) (Ls : Array Slot) (hef : ∀ m, entryFrame m as maxL = mkF m 0 Ls [])
    (H : ∀ p e s m below meth c, Cx Z p s m meth c y bytes maxL ret → Wk W p l e rm s m as below meth c n0 Q h 0 0 (mkF m 0 Ls [])) : Met W l Z n0 y bytes maxL ret rm as h Q := by
  intro ws
  refine MetFree.of_bodySF (plainFor_of_name hpn) hisR ?_
  intro p e s m args below meth c s₁ Bd hml0 hP hK
  obtain ⟨ha, hZ, hh⟩ := hP
  have hown := findClass_of_methodNamed Bd.named
  have hnm := (name_of_methodNamed Bd.named Bd.method).1
  have e0 : s₁.heap = h := by rw [← hh, Bd.state]; rfl
  have X0 : Stand p l e rm s m args below meth c s₁ [] 0 0 := Stand.of_body Bd
  rw [ha] at X0 ⊢
  obtain ⟨s₂, o, h1, h2⟩ := H p e s m below meth c ⟨Bd.exec, Bd.bytes, hml0, hZ, hown, hnm, Bd.returns, Bd.notSynchronized⟩ s₁ [] s.vm X0 (Bs.start W s _) e0 (Fr.nil n0)
  exact ⟨s₂, o, castTop (hef m) h1, h2⟩
section Rules
variable {W : Bool} {Z : State} {p : Program} {l : Launch} {e : Env} {R : Room} {s : State} {m : MethodId} {args : Array Value} {below : List Frame} {meth : Method} {c : Code} {y : MethodName} {bytes : ByteArray} {maxL : Nat} {ret : Option FieldType} {n0 : Nat} {Q : Option Value → Heap → Prop} {h : Heap} {k n : Nat} {g g' : JFrame} {a0 : Array Value}
theorem Wk.more {k' n' : Nat} (q1 : k ≤ k') (q2 : n ≤ n') (H : Wk W p l e R s m args below meth c n0 Q h k' n' g) : Wk W p l e R s m args below meth c n0 Q h k n g :=
  fun T L vm0 X B eT N => H T L vm0 (X.more q1 q2) B eT N
theorem Wk.st (f : ∀ {T : State} {L : List Loc} {vm0 : Vm}, Stand p l e R (s.setVm vm0) m args below meth c T L k n → ∀ t, Steps p.tables e below (T.setTop g') t → Steps p.tables e below (T.setTop g) t)
    (H : Wk W p l e R s m args below meth c n0 Q h k n g') : Wk W p l e R s m args below meth c n0 Q h k n g := by
  intro T L vm0 X B eT N
  obtain ⟨s₂, o, h1, h2⟩ := H T L vm0 X B eT N
  exact ⟨s₂, o, f X _ h1, h2⟩
/-- a step that needs the tables (as they stand at vm0) and the heap, and leaves the heap -/
theorem Wk.stZ (C : Cx Z p s m meth c y bytes maxL ret) (f : ∀ {T : State} {L : List Loc} {vm0 : Vm}, Stand p l e R (s.setVm vm0) m args below meth c T L k n → Z.Warmed39 (s.setVm vm0).vm → (s.setVm vm0).vm.findClass y.cls = some m.cls → T.heap = h → ∃ T', Stand p l e R (s.setVm vm0) m args below meth c T' L k n ∧ T'.heap = h ∧ ∀ t, Steps p.tables e below (T'.setTop g') t → Steps p.tables e below (T.setTop g) t)
    (H : Wk W p l e R s m args below meth c n0 Q h k n g') : Wk W p l e R s m args below meth c n0 Q h k n g := by
  intro T L vm0 X B eT N
  obtain ⟨T', X', e', st⟩ := f X (C.wZ B) (C.wo B) eT
  obtain ⟨s₂, o, h1, h2⟩ := H T' L vm0 X' B e' N
  exact ⟨s₂, o, st _ h1, h2⟩
/-- a step that writes one place of a new cell -/
theorem Wk.stW (C : Cx Z p s m meth c y bytes maxL ret) {a : Addr} {sl : Nat} {v : Value} (ge : n0 ≤ a) (f : ∀ {T : State} {L : List Loc} {vm0 : Vm}, Stand p l e R (s.setVm vm0) m args below meth c T L k n → Z.Warmed39 (s.setVm vm0).vm → (s.setVm vm0).vm.findClass y.cls = some m.cls → T.heap = h → ∃ T' h', Stand p l e R (s.setVm vm0) m args below meth c T' (L ++ [⟨a, sl⟩]) k n ∧ T'.heap = h' ∧ Wr h h' a sl v ∧ ∀ t, Steps p.tables e below (T'.setTop g') t → Steps p.tables e below (T.setTop g) t)
    (H : ∀ h', Wr h h' a sl v → Wk W p l e R s m args below meth c n0 Q h' k n g') : Wk W p l e R s m args below meth c n0 Q h k n g := by
  intro T L vm0 X B eT N
  obtain ⟨T', h', X', e', Wh, st⟩ := f X (C.wZ B) (C.wo B) eT
  obtain ⟨s₂, o, h1, h2⟩ := H h' Wh T' _ vm0 X' (B.mono (Nat.le_of_eq Wh.size.symm)) e' (Fr.snoc X' N ge)
  exact ⟨s₂, o, st _ h1, h2⟩
theorem Wk.ldcI (C : Cx Z p s m meth c y bytes maxL ret) {index : Nat} {v : Int32} (w : (Cond.constant y.cls index v).before a0 Z = true) {pc : Nat} {Ls : Array Slot} {st : List Value} (hd : decode bytes pc = .ok (.ldc index, 2))
    (H : Wk W p l e R s m args below meth c n0 Q h k n (mkF m (pc + 2) Ls (.int v :: st))) : Wk W p l e R s m args below meth c n0 Q h k n (mkF m pc Ls st) :=
  Wk.stZ C (fun X hZ ho eT => ⟨_, X, eT, fun t q => X.ldcI C.hx ho (mvT hZ w) rfl (hb C.hby hd) q⟩) H
theorem Wk.ldc2J (C : Cx Z p s m meth c y bytes maxL ret) {index : Nat} {v : Int64} (w : (Cond.constantLong y.cls index v).before a0 Z = true) {pc : Nat} {Ls : Array Slot} {st : List Value} (hd : decode bytes pc = .ok (.ldc2_w index, 3))
    (H : Wk W p l e R s m args below meth c n0 Q h k n (mkF m (pc + 3) Ls (.long v :: st))) : Wk W p l e R s m args below meth c n0 Q h k n (mkF m pc Ls st) :=
  Wk.stZ C (fun X hZ ho eT => ⟨_, X, eT, fun t q => X.ldc2J C.hx ho (mvT hZ w) rfl (hb C.hby hd) q⟩) H
theorem Wk.getS (C : Cx Z p s m meth c y bytes maxL ret) {O nm d : String} {index : Nat} (w : (Cond.fieldLink y.cls index O nm d).before a0 Z = true) {v : Value} (F : Sta Z h O nm d v) {pc : Nat} {Ls : Array Slot} {st : List Value} (hd : decode bytes pc = .ok (.getstatic index, 3))
    (H : Wk W p l e R s m args below meth c n0 Q h k n (mkF m (pc + 3) Ls (v :: st))) : Wk W p l e R s m args below meth c n0 Q h k n (mkF m pc Ls st) :=
  Wk.stZ C (fun X hZ ho eT => Jvm.RoadKit.getS (host := "") X C.hx hZ ho w Via.refl eT F (g := mkF m pc Ls st) rfl (hb C.hby hd)) H
theorem Wk.getF (C : Cx Z p s m meth c y bytes maxL ret) {R0 O nm d : String} {index : Nat} (w : (Cond.fieldLink y.cls index R0 nm d).before a0 Z = true) (via : Via Z R0 O nm d) {a : Addr} {v : Value} (F : Fld Z h a O nm d v) {pc : Nat} {Ls : Array Slot} {st : List Value} (hd : decode bytes pc = .ok (.getfield index, 3))
    (H : Wk W p l e R s m args below meth c n0 Q h k n (mkF m (pc + 3) Ls (v :: st))) : Wk W p l e R s m args below meth c n0 Q h k n (mkF m pc Ls (.ref a :: st)) :=
  Wk.stZ C (fun X hZ ho eT => Jvm.RoadKit.getF (host := "") X C.hx hZ ho (Or.inl w) via eT F (g := mkF m pc Ls (.ref a :: st)) rfl rfl (hb C.hby hd)) H
theorem Wk.putF (C : Cx Z p s m meth c y bytes maxL ret) {R0 O nm d K : String} {index kk : Nat} {ty : FieldType} (w : (Cond.fieldLink y.cls index R0 nm d).before a0 Z = true) (via : Via Z R0 O nm d) {a : Addr} {v v' old : Value} (F : Fld Z h a O nm d old) (E : Exa Z h a K)
    (L : (Cond.lays K O nm d).before a0 Z = true ∨ ((Cond.laysFinal K O nm d).before a0 Z = true ∧ y.cls = O ∧ y.name = "<init>")) (wi : (Cond.instantiable K kk).before a0 Z = true) (hty : parseFieldDescriptor d = some ty) (hn : narrow ty v = v') (hf : fits ty v' = true) (ge : n0 ≤ a)
    {pc : Nat} {Ls : Array Slot} {st : List Value} (hd : decode bytes pc = .ok (.putfield index, 3))
    (H : ∀ h', Wr h h' a (Jvm.RoadKit.slotOf Z O nm d) v' → Wk W p l e R s m args below meth c n0 Q h' k n (mkF m (pc + 3) Ls st)) : Wk W p l e R s m args below meth c n0 Q h k n (mkF m pc Ls (v :: .ref a :: st)) :=
  Wk.stW C ge (fun X hZ ho eT => Jvm.RoadKit.putFN X C.hx hZ ho w via eT F E (L.imp id fun q => ⟨q.1, q.2.1, C.hnm.trans q.2.2⟩) wi hty hn hf (g := mkF m pc Ls (v :: .ref a :: st)) rfl rfl (hb C.hby hd)) H
theorem Wk.newO (C : Cx Z p s m meth c y bytes maxL ret) {K : String} {index sz : Nat} (w : (Cond.classLink y.cls index K).before a0 Z = true) (wi : (Cond.instantiable K sz).before a0 Z = true) (wz : (Cond.initialized K).before a0 Z = true) {pc : Nat} {Ls : Array Slot} {st : List Value} (hd : decode bytes pc = .ok (.new index, 3)) (hc : k + 1 ≤ R.cells) (hl : n + sz ≤ R.slots)
    (H : ∀ h' a, a = h.size → Ext h h' → Exa Z h' a K → (∀ {O nm d : String} {ty : FieldType}, Laid Z a0 K O nm d → parseFieldDescriptor d = some ty → Fld Z h' a O nm d (defaultValue ty)) → Wk W p l e R s m args below meth c n0 Q h' (k + 1) (n + sz) (mkF m (pc + 3) Ls (.ref a :: st))) :
    Wk W p l e R s m args below meth c n0 Q h k n (mkF m pc Ls st) := by
  intro T L vm0 X B eT N
  obtain ⟨T', h', X', e', E, A, D, -, st⟩ := Jvm.RoadKit.newO X C.hx (C.wZ B) (C.wo B) w wi wz eT (g := mkF m pc Ls st) rfl (hb C.hby hd) hc hl
  obtain ⟨s₂, o, h1, h2⟩ := H h' _ rfl E A D T' L vm0 X' (B.mono E.1) e' N
  exact ⟨s₂, o, st _ h1, h2⟩
theorem Wk.newP (C : Cx Z p s m meth c y bytes maxL ret) {aty : ArrayType} (w : (Cond.arrayClass (newarray.typeOf aty)).before a0 Z = true) {z : Int32} (hz : ¬ z < 0) {cap : Nat} (hcap : z.toNatClampNeg ≤ cap) (hbig : cap * 8 ≤ 536870912) {pc : Nat} {Ls : Array Slot} {st : List Value} (hd : decode bytes pc = .ok (.newarray aty, 2)) (hc : k + 1 ≤ R.cells) (hl : n + cap ≤ R.slots)
    (H : ∀ h' a cA, a = h.size → Ext h h' → Arr Z h' a (newA cA (newarray.typeOf aty) z) (newarray.typeOf aty) → Wk W p l e R s m args below meth c n0 Q h' (k + 1) (n + cap) (mkF m (pc + 2) Ls (.ref a :: st))) :
    Wk W p l e R s m args below meth c n0 Q h k n (mkF m pc Ls (.int z :: st)) := by
  intro T L vm0 X B eT N
  obtain ⟨T', h', cA, X', e', E, A, st⟩ := Jvm.RoadKit.newP X C.hx (C.wZ B) w eT (g := mkF m pc Ls (.int z :: st)) rfl (hb C.hby hd) rfl hz hcap hbig hc hl
  obtain ⟨s₂, o, h1, h2⟩ := H h' _ cA rfl E A T' L vm0 X' (B.mono E.1) e' N
  exact ⟨s₂, o, st _ h1, h2⟩
theorem Wk.newR (C : Cx Z p s m meth c y bytes maxL ret) {K : String} {index : Nat} (w1 : (Cond.classLink y.cls index K).before a0 Z = true) (w2 : (Cond.arrayOver (.object K)).before a0 Z = true) {z : Int32} (hz : ¬ z < 0) {cap : Nat} (hcap : z.toNatClampNeg ≤ cap) (hbig : cap * 8 ≤ 536870912) {pc : Nat} {Ls : Array Slot} {st : List Value} (hd : decode bytes pc = .ok (.anewarray index, 3)) (hc : k + 1 ≤ R.cells) (hl : n + cap ≤ R.slots)
    (H : ∀ h' a cA, a = h.size → Ext h h' → Arr Z h' a (newA cA (.object K) z) (.object K) → Ovr Z cA K → Wk W p l e R s m args below meth c n0 Q h' (k + 1) (n + cap) (mkF m (pc + 3) Ls (.ref a :: st))) :
    Wk W p l e R s m args below meth c n0 Q h k n (mkF m pc Ls (.int z :: st)) := by
  intro T L vm0 X B eT N
  obtain ⟨T', h', cA, X', e', E, A, O, st⟩ := Jvm.RoadKit.newR X C.hx (C.wZ B) (C.wo B) w1 w2 eT (g := mkF m pc Ls (.int z :: st)) rfl (hb C.hby hd) rfl hz hcap hbig hc hl
  obtain ⟨s₂, o, h1, h2⟩ := H h' _ cA rfl E A O T' L vm0 X' (B.mono E.1) e' N
  exact ⟨s₂, o, st _ h1, h2⟩
theorem Wk.stI (C : Cx Z p s m meth c y bytes maxL ret) {a : Addr} {cl : Cell} (A : Arr Z h a cl .int) {j x : Int32} (hj : ¬ (j < 0 ∨ cl.slots.size ≤ j.toNatClampNeg)) (ge : n0 ≤ a) {pc : Nat} {Ls : Array Slot} {st : List Value} (hd : decode bytes pc = .ok (.iastore, 1))
    (H : ∀ h', Wr h h' a j.toNatClampNeg (.int x) → Wk W p l e R s m args below meth c n0 Q h' k n (mkF m (pc + 1) Ls st)) : Wk W p l e R s m args below meth c n0 Q h k n (mkF m pc Ls (.int x :: .int j :: .ref a :: st)) :=
  Wk.stW C ge (fun X hZ ho eT => Jvm.RoadKit.stI X C.hx hZ eT A hj (g := mkF m pc Ls (.int x :: .int j :: .ref a :: st)) rfl rfl (hb C.hby hd)) H
theorem Wk.stJ (C : Cx Z p s m meth c y bytes maxL ret) {a : Addr} {cl : Cell} (A : Arr Z h a cl .long) {j : Int32} {x : Int64} (hj : ¬ (j < 0 ∨ cl.slots.size ≤ j.toNatClampNeg)) (ge : n0 ≤ a) {pc : Nat} {Ls : Array Slot} {st : List Value} (hd : decode bytes pc = .ok (.lastore, 1))
    (H : ∀ h', Wr h h' a j.toNatClampNeg (.long x) → Wk W p l e R s m args below meth c n0 Q h' k n (mkF m (pc + 1) Ls st)) : Wk W p l e R s m args below meth c n0 Q h k n (mkF m pc Ls (.long x :: .int j :: .ref a :: st)) :=
  Wk.stW C ge (fun X hZ ho eT => Jvm.RoadKit.stJ X C.hx hZ eT A hj (g := mkF m pc Ls (.long x :: .int j :: .ref a :: st)) rfl rfl (hb C.hby hd)) H
theorem Wk.stR (C : Cx Z p s m meth c y bytes maxL ret) {a : Addr} {cl : Cell} {ty : FieldType} (A : Arr Z h a cl ty) {j : Int32} {v : Value} (hj : ¬ (j < 0 ∨ cl.slots.size ≤ j.toNatClampNeg)) (hty : ty.isReference = true) (F : Sto Z h a v) (ge : n0 ≤ a) {pc : Nat} {Ls : Array Slot} {st : List Value} (hd : decode bytes pc = .ok (.aastore, 1))
    (H : ∀ h', Wr h h' a j.toNatClampNeg v → Wk W p l e R s m args below meth c n0 Q h' k n (mkF m (pc + 1) Ls st)) : Wk W p l e R s m args below meth c n0 Q h k n (mkF m pc Ls (v :: .int j :: .ref a :: st)) :=
  Wk.stW C ge (fun X hZ ho eT => Jvm.RoadKit.stR X C.hx hZ eT A hj hty F (g := mkF m pc Ls (v :: .int j :: .ref a :: st)) rfl rfl (hb C.hby hd)) H
theorem Wk.len (C : Cx Z p s m meth c y bytes maxL ret) {a : Addr} {cl : Cell} {ty : FieldType} (A : Arr Z h a cl ty) {pc : Nat} {Ls : Array Slot} {st : List Value} (hd : decode bytes pc = .ok (.arraylength, 1))
    (H : Wk W p l e R s m args below meth c n0 Q h k n (mkF m (pc + 1) Ls (.int cl.slots.size.toInt32 :: st))) : Wk W p l e R s m args below meth c n0 Q h k n (mkF m pc Ls (.ref a :: st)) :=
  Wk.stZ C (fun X hZ ho eT => ⟨_, X, eT, X.arraylength C.hx (by rw [eT]; exact A.1) (State.isArrayOf_alike hZ.alike A.2.1) (g := mkF m pc Ls (.ref a :: st)) rfl rfl (hb C.hby hd)⟩) H
theorem Wk.ldI (C : Cx Z p s m meth c y bytes maxL ret) {a : Addr} {cl : Cell} (A : Arr Z h a cl .int) {j : Int32} {v : Value} (hj : ¬ (j < 0 ∨ cl.slots.size ≤ j.toNatClampNeg)) (hv : cl.slots[j.toNatClampNeg]? = some v) {pc : Nat} {Ls : Array Slot} {st : List Value} (hd : decode bytes pc = .ok (.iaload, 1))
    (H : Wk W p l e R s m args below meth c n0 Q h k n (mkF m (pc + 1) Ls (v :: st))) : Wk W p l e R s m args below meth c n0 Q h k n (mkF m pc Ls (.int j :: .ref a :: st)) :=
  Wk.stZ C (fun X hZ ho eT => ⟨_, X, eT, X.iaload C.hx (by rw [eT]; exact A.1) (State.isArrayOf_alike hZ.alike A.2.1) A.2.2 hj hv (g := mkF m pc Ls (.int j :: .ref a :: st)) rfl rfl (hb C.hby hd)⟩) H
theorem Wk.ldJ (C : Cx Z p s m meth c y bytes maxL ret) {a : Addr} {cl : Cell} (A : Arr Z h a cl .long) {j : Int32} {v : Value} (hj : ¬ (j < 0 ∨ cl.slots.size ≤ j.toNatClampNeg)) (hv : cl.slots[j.toNatClampNeg]? = some v) {pc : Nat} {Ls : Array Slot} {st : List Value} (hd : decode bytes pc = .ok (.laload, 1))
    (H : Wk W p l e R s m args below meth c n0 Q h k n (mkF m (pc + 1) Ls (v :: st))) : Wk W p l e R s m args below meth c n0 Q h k n (mkF m pc Ls (.int j :: .ref a :: st)) :=
  Wk.stZ C (fun X hZ ho eT => ⟨_, X, eT, X.laload C.hx (by rw [eT]; exact A.1) (State.isArrayOf_alike hZ.alike A.2.1) A.2.2 hj hv (g := mkF m pc Ls (.int j :: .ref a :: st)) rfl rfl (hb C.hby hd)⟩) H
theorem Wk.ldR (C : Cx Z p s m meth c y bytes maxL ret) {a : Addr} {cl : Cell} {ty : FieldType} (A : Arr Z h a cl ty) (hty : ty.isReference = true) {j : Int32} {v : Value} (hj : ¬ (j < 0 ∨ cl.slots.size ≤ j.toNatClampNeg)) (hv : cl.slots[j.toNatClampNeg]? = some v) {pc : Nat} {Ls : Array Slot} {st : List Value} (hd : decode bytes pc = .ok (.aaload, 1))
    (H : Wk W p l e R s m args below meth c n0 Q h k n (mkF m (pc + 1) Ls (v :: st))) : Wk W p l e R s m args below meth c n0 Q h k n (mkF m pc Ls (.int j :: .ref a :: st)) :=
  Wk.stZ C (fun X hZ ho eT => ⟨_, X, eT, X.aaload C.hx (by rw [eT]; exact A.1) (State.isArrayOf_alike hZ.alike A.2.1) hty A.2.2 hj hv (g := mkF m pc Ls (.int j :: .ref a :: st)) rfl rfl (hb C.hby hd)⟩) H
theorem Wk.ldZ (C : Cx Z p s m meth c y bytes maxL ret) {a : Addr} {cl : Cell} (A : Arr Z h a cl .boolean) {j : Int32} {v : Value} (hj : ¬ (j < 0 ∨ cl.slots.size ≤ j.toNatClampNeg)) (hv : cl.slots[j.toNatClampNeg]? = some v) {pc : Nat} {Ls : Array Slot} {st : List Value} (hd : decode bytes pc = .ok (.baload, 1))
    (H : Wk W p l e R s m args below meth c n0 Q h k n (mkF m (pc + 1) Ls (v :: st))) : Wk W p l e R s m args below meth c n0 Q h k n (mkF m pc Ls (.int j :: .ref a :: st)) :=
  Wk.stZ C (fun X hZ ho eT => ⟨_, X, eT, X.baloadBooleans C.hx (by rw [eT]; exact A.1) (State.isArrayOf_alike hZ.alike A.2.1) A.2.2 hj hv (g := mkF m pc Ls (.int j :: .ref a :: st)) rfl rfl (hb C.hby hd)⟩) H
theorem Wk.stZb (C : Cx Z p s m meth c y bytes maxL ret) {a : Addr} {cl : Cell} (A : Arr Z h a cl .boolean) {j x : Int32} (hj : ¬ (j < 0 ∨ cl.slots.size ≤ j.toNatClampNeg)) (ge : n0 ≤ a) {pc : Nat} {Ls : Array Slot} {st : List Value} (hd : decode bytes pc = .ok (.bastore, 1))
    (H : ∀ h', Wr h h' a j.toNatClampNeg (.int (nar .boolean x)) → Wk W p l e R s m args below meth c n0 Q h' k n (mkF m (pc + 1) Ls st)) : Wk W p l e R s m args below meth c n0 Q h k n (mkF m pc Ls (.int x :: .int j :: .ref a :: st)) :=
  Wk.stW C ge (fun X hZ ho eT => Jvm.RoadKit.stZ X C.hx hZ eT A hj (g := mkF m pc Ls (.int x :: .int j :: .ref a :: st)) rfl rfl (hb C.hby hd)) H
theorem Wk.stB (C : Cx Z p s m meth c y bytes maxL ret) {a : Addr} {cl : Cell} (A : Arr Z h a cl .byte) {j x : Int32} (hj : ¬ (j < 0 ∨ cl.slots.size ≤ j.toNatClampNeg)) (ge : n0 ≤ a) {pc : Nat} {Ls : Array Slot} {st : List Value} (hd : decode bytes pc = .ok (.bastore, 1))
    (H : ∀ h', Wr h h' a j.toNatClampNeg (.int (nar .byte x)) → Wk W p l e R s m args below meth c n0 Q h' k n (mkF m (pc + 1) Ls st)) : Wk W p l e R s m args below meth c n0 Q h k n (mkF m pc Ls (.int x :: .int j :: .ref a :: st)) :=
  Wk.stW C ge (fun X hZ ho eT => Jvm.RoadKit.stB X C.hx hZ eT A hj (g := mkF m pc Ls (.int x :: .int j :: .ref a :: st)) rfl rfl (hb C.hby hd)) H
theorem Wk.stC (C : Cx Z p s m meth c y bytes maxL ret) {a : Addr} {cl : Cell} (A : Arr Z h a cl .char) {j x : Int32} (hj : ¬ (j < 0 ∨ cl.slots.size ≤ j.toNatClampNeg)) (ge : n0 ≤ a) {pc : Nat} {Ls : Array Slot} {st : List Value} (hd : decode bytes pc = .ok (.castore, 1))
    (H : ∀ h', Wr h h' a j.toNatClampNeg (.int (nar .char x)) → Wk W p l e R s m args below meth c n0 Q h' k n (mkF m (pc + 1) Ls st)) : Wk W p l e R s m args below meth c n0 Q h k n (mkF m pc Ls (.int x :: .int j :: .ref a :: st)) :=
  Wk.stW C ge (fun X hZ ho eT => Jvm.RoadKit.stC X C.hx hZ eT A hj (g := mkF m pc Ls (.int x :: .int j :: .ref a :: st)) rfl rfl (hb C.hby hd)) H
theorem Wk.initO (C : Cx Z p s m meth c y bytes maxL ret) {index : Nat} (w1 : (Cond.methodLink y.cls index Lib.objectInit).before a0 Z = true) (w2 : (Cond.instanceMethod Lib.objectInit).before a0 Z = true) (w3 : (Cond.code Lib.objectInit ⟨#[0xb1]⟩ 1 none).before a0 Z = true) {a : Addr} {w : Nat} {pc : Nat} {Ls : Array Slot} {st : List Value} (hls : Ls.size = maxL) (hd : decode bytes pc = .ok (.invokespecial index, 3)) (hf : 1 ≤ R.frames) (hw : (st.map fun v => v.category).sum ≤ w) (hl : w + 12 ≤ R.locals)
    (H : Wk W p l e R s m args below meth c n0 Q h k n (mkF m (pc + 3) Ls st)) : Wk W p l e R s m args below meth c n0 Q h k n (mkF m pc Ls (.ref a :: st)) :=
  Wk.stZ C (fun X hZ ho eT => Jvm.RoadKit.initO X C.hx hZ ho w1 w2 w3 eT (g := mkF m pc Ls (.ref a :: st)) rfl (hls.trans C.hml.symm) rfl (hb C.hby hd) hf (W := w) (by show 2 * 0 + _ ≤ _; omega) hl) H
theorem Wk.retV (C : Cx Z p s m meth c y bytes maxL ret) {pc : Nat} {Ls : Array Slot} {w : Value} {t : FieldType} {i : Instr} {rest : List Value} (ht : ret = some t) (hn : narrow t w = w)
    (hi : (i = .ireturn ∧ (t = .int ∨ t = .boolean ∨ t = .byte ∨ t = .char ∨ t = .short) ∧ ∃ z, w = .int z) ∨ (i = .lreturn ∧ t = .long ∧ ∃ z, w = .long z) ∨ (i = .dreturn ∧ t = .double ∧ ∃ z, w = .double z) ∨ (i = .freturn ∧ t = .float ∧ ∃ z, w = .float z) ∨ (i = .areturn ∧ t.isReference = true ∧ w.isRef = true))
    (hd : decode bytes pc = .ok (i, 1)) (hk : k ≤ R.cells) (hs : n ≤ R.slots) (hq : Q (some w) h) : Wk W p l e R s m args below meth c n0 Q h k n (mkF m pc Ls (w :: rest)) := by
  intro T L vm0 X B eT N
  have hlk := C.hlk
  have hv : meth.sig.returnType = none → (some w : Option Value) = none := fun h => by rw [C.hret, ht] at h; cases h
  cases W
  · cases (B : vm0 = s.vm)
    obtain ⟨fs, hr, hrun, hended, hW, hsame⟩ := Stand.leave (s := s) X (v := some w) hv hlk
    refine ⟨_, _, retOut X C.hx (C.hret.trans ht) hn hi (hb C.hby hd) hr, hrun, hended, _, L, rfl, ⟨?_, N⟩, ⟨_, rfl⟩, hW, hsame.mono hk hs⟩
    show Q (some w) T.heap
    rw [eT]; exact hq
  · obtain ⟨k0, hS, hk0⟩ := (B : ∃ k0, s.Since vm0 k0 ∧ k0 ≤ h.size)
    obtain ⟨fs, hr, hrun, hended, hE⟩ := X.leaveW hS (by rw [eT]; exact hk0) (v := some w) hv hlk
    refine ⟨_, _, retOut X C.hx (C.hret.trans ht) hn hi (hb C.hby hd) hr, hrun, hended, _, L, rfl, ⟨?_, N⟩, hE.1, hE.2.1, hE.2.2.1, hE.2.2.2.mono hk hs⟩
    show Q (some w) T.heap
    rw [eT]; exact hq
theorem Wk.retN0 (C : Cx Z p s m meth c y bytes maxL ret) {pc : Nat} {Ls : Array Slot} (ht : ret = none) (hd : decode bytes pc = .ok (.return_, 1)) (hk : k ≤ R.cells) (hs : n ≤ R.slots) (hq : Q none h) : Wk W p l e R s m args below meth c n0 Q h k n (mkF m pc Ls []) := by
  intro T L vm0 X B eT N
  have hlk := C.hlk
  have hv : meth.sig.returnType = none → (none : Option Value) = none := fun _ => rfl
  cases W
  · cases (B : vm0 = s.vm)
    obtain ⟨fs, hr, hrun, hended, hW, hsame⟩ := Stand.leave (s := s) X (v := none) hv hlk
    refine ⟨_, _, X.returnOut C.hx (C.hret.trans ht) (hb C.hby hd) hr, hrun, hended, _, L, rfl, ⟨?_, N⟩, ⟨_, rfl⟩, hW, hsame.mono hk hs⟩
    show Q none T.heap
    rw [eT]; exact hq
  · obtain ⟨k0, hS, hk0⟩ := (B : ∃ k0, s.Since vm0 k0 ∧ k0 ≤ h.size)
    obtain ⟨fs, hr, hrun, hended, hE⟩ := X.leaveW hS (by rw [eT]; exact hk0) (v := none) hv hlk
    refine ⟨_, _, X.returnOut C.hx (C.hret.trans ht) (hb C.hby hd) hr, hrun, hended, _, L, rfl, ⟨?_, N⟩, hE.1, hE.2.1, hE.2.2.1, hE.2.2.2.mono hk hs⟩
    show Q none T.heap
    rw [eT]; exact hq
/-- the three calls, by the callee's contract -/
theorem Wk.callS (C : Cx Z p s m meth c y bytes maxL ret) {z : MethodName} {index : Nat} {bz : ByteArray} {mz : Nat} {rz : Option FieldType} {rm : Room} {asL : List Value} {Qz : Option Value → Heap → Prop}
    (w1 : (Cond.methodLink y.cls index z).before a0 Z = true) (w2 : (Cond.static z).before a0 Z = true) (w3 : (Cond.initialized z.cls).before a0 Z = true) (w4 : (Cond.code z bz mz rz).before a0 Z = true)
    (hz : z.cls ≠ "java/lang/invoke/MethodHandle" ∧ z.cls ≠ "java/lang/invoke/VarHandle") (M : Met W l Z n0 z bz mz rz rm asL.toArray h Qz) {w : Nat} (hf : rm.frames + 1 ≤ R.frames) (hl : w + (mz + 11) + rm.locals ≤ R.locals)
    {ps : List FieldType} {r : Option FieldType} (hlen : parseMethodDescriptor z.desc = some ⟨ps, r⟩) (hps : asL.length = ps.length) {pc : Nat} {Ls : Array Slot} {st rest : List Value} (hls : Ls.size = maxL) (hst : st = asL.reverse ++ rest) (hw : (rest.map fun v => v.category).sum ≤ w)
    (hc : k + rm.cells ≤ R.cells) (hs : n + rm.slots ≤ R.slots) (hd : decode bytes pc = .ok (.invokestatic index, 3))
    (H : ∀ v h', Qz v h' → Wk W p l e R s m args below meth c n0 Q h' (k + rm.cells) (n + rm.slots) (mkF m (pc + 3) Ls (v.toList ++ rest))) : Wk W p l e R s m args below meth c n0 Q h k n (mkF m pc Ls st) := by
  intro T L vm0 X B eT N
  subst hst
  have hZ := C.wZ B
  have ho := C.wo B
  have hw' : 2 * (mkF m pc Ls (asL.reverse ++ rest)).monitorRoom + (rest.map fun v => v.category).sum ≤ w := by show 2 * 0 + _ ≤ _; omega
  cases W
  · obtain ⟨v, vm₁, ⟨T', L', k', n'⟩, -, X', ⟨Lc, hQ, l1, y1, z1⟩, st⟩ := Jvm.LawKit.callS X C.hx ho (mvT hZ w1) (mvT hZ w2) (mvT hZ w3) (mvT hZ w4) hz (backOf (W := w) (Q := fun v h L => Qz v h ∧ Fr n0 L) (M []) hZ w4 w3 hf hl) (g := mkF m pc Ls (asL.reverse ++ rest)) rfl (hls.trans C.hml.symm) (argsL := asL) (rest := rest) (lenOf hlen hps) rfl hw' (hb C.hby hd) (fun _ _ => ⟨rfl, eT, hc, hs⟩)
    dsimp only [Pt.U, Pt.locs, Pt.cells, Pt.slots] at X' l1 y1 z1 st hQ
    subst l1 y1 z1
    obtain ⟨s₂, o, h1, h2⟩ := H v T'.heap hQ.1 T' _ vm0 X' (B : vm0 = s.vm) rfl (N.app hQ.2)
    exact ⟨s₂, o, st _ h1, h2⟩
  · obtain ⟨v, vm₁, ⟨T', L', k', n'⟩, -, X', hS', hgr, ⟨Lc, hQ, l1, y1, z1⟩, st⟩ := callSS X C.hx ho (mvT hZ w1) (mvT hZ w2) (mvT hZ w3) (mvT hZ w4) hz (backOfS (W := w) (Q := fun v h L => Qz v h ∧ Fr n0 L) (M []) hZ w4 w3 hf hl) (g := mkF m pc Ls (asL.reverse ++ rest)) rfl (hls.trans C.hml.symm) (argsL := asL) (rest := rest) (lenOf hlen hps) rfl hw' (hb C.hby hd) (fun _ _ => ⟨rfl, eT, hc, hs⟩)
    dsimp only [Pt.U, Pt.locs, Pt.cells, Pt.slots] at X' hS' hgr l1 y1 z1 st hQ
    subst l1 y1 z1
    obtain ⟨k0, hS, hk0⟩ := (B : ∃ k0, s.Since vm0 k0 ∧ k0 ≤ h.size)
    obtain ⟨s₂, o, h1, h2⟩ := H v T'.heap hQ.1 T' _ T'.vm X' ⟨_, foldS hS (by rw [eT]; exact hk0) hS' hgr, Nat.le_refl _⟩ rfl (N.app hQ.2)
    exact ⟨s₂, o, st.trans h1, h2⟩
theorem Wk.callI (C : Cx Z p s m meth c y bytes maxL ret) {z : MethodName} {index : Nat} {bz : ByteArray} {mz : Nat} {rm : Room} {a : Addr} {asL : List Value} {Qz : Option Value → Heap → Prop} (hz1 : z.name = "<init>")
    (w1 : (Cond.methodLink y.cls index z).before a0 Z = true) (w2 : (Cond.instanceMethod z).before a0 Z = true) (w3 : (Cond.initialized z.cls).before a0 Z = true) (w4 : (Cond.code z bz mz none).before a0 Z = true)
    (hz : z.cls ≠ "java/lang/invoke/MethodHandle" ∧ z.cls ≠ "java/lang/invoke/VarHandle") (M : Met W l Z n0 z bz mz none rm (.ref a :: asL).toArray h Qz) {w : Nat} (hf : rm.frames + 1 ≤ R.frames) (hl : w + (mz + 11) + rm.locals ≤ R.locals)
    {ps : List FieldType} {r : Option FieldType} (hlen : parseMethodDescriptor z.desc = some ⟨ps, r⟩) (hps : asL.length = ps.length) {pc : Nat} {Ls : Array Slot} {st rest : List Value} (hls : Ls.size = maxL) (hst : st = asL.reverse ++ .ref a :: rest) (hw : (rest.map fun v => v.category).sum ≤ w)
    (hc : k + rm.cells ≤ R.cells) (hs : n + rm.slots ≤ R.slots) (hd : decode bytes pc = .ok (.invokespecial index, 3))
    (H : ∀ v h', Qz v h' → Wk W p l e R s m args below meth c n0 Q h' (k + rm.cells) (n + rm.slots) (mkF m (pc + 3) Ls (v.toList ++ rest))) : Wk W p l e R s m args below meth c n0 Q h k n (mkF m pc Ls st) := by
  intro T L vm0 X B eT N
  subst hst
  have hZ := C.wZ B
  have ho := C.wo B
  have hw' : 2 * (mkF m pc Ls (asL.reverse ++ .ref a :: rest)).monitorRoom + (rest.map fun v => v.category).sum ≤ w := by show 2 * 0 + _ ≤ _; omega
  cases W
  · obtain ⟨v, vm₁, ⟨T', L', k', n'⟩, -, X', ⟨Lc, hQ, l1, y1, z1⟩, st⟩ := X.specialBack C.hx hz1 ho (mvT hZ w1) (mvT hZ w2) (mvT hZ w4) hz (backOf (W := w) (Q := fun v h L => Qz v h ∧ Fr n0 L) (M []) hZ w4 w3 hf hl) (g := mkF m pc Ls (asL.reverse ++ .ref a :: rest)) rfl (hls.trans C.hml.symm) (Steps.refl _) (a := a) (argsL := asL) (rest := rest) (lenOf hlen hps) rfl hw' (hb C.hby hd) (fun _ _ => ⟨rfl, eT, hc, hs⟩)
    dsimp only [Pt.U, Pt.locs, Pt.cells, Pt.slots] at X' l1 y1 z1 st hQ
    subst l1 y1 z1
    obtain ⟨s₂, o, h1, h2⟩ := H v T'.heap hQ.1 T' _ vm0 X' (B : vm0 = s.vm) rfl (N.app hQ.2)
    exact ⟨s₂, o, st.trans h1, h2⟩
  · obtain ⟨v, vm₁, ⟨T', L', k', n'⟩, -, X', hS', hgr, ⟨Lc, hQ, l1, y1, z1⟩, st⟩ := X.specialBackS C.hx hz1 ho (mvT hZ w1) (mvT hZ w2) (mvT hZ w4) hz (backOfS (W := w) (Q := fun v h L => Qz v h ∧ Fr n0 L) (M []) hZ w4 w3 hf hl) (g := mkF m pc Ls (asL.reverse ++ .ref a :: rest)) rfl (hls.trans C.hml.symm) (Steps.refl _) (a := a) (argsL := asL) (rest := rest) (lenOf hlen hps) rfl hw' (hb C.hby hd) (fun _ _ => ⟨rfl, eT, hc, hs⟩)
    dsimp only [Pt.U, Pt.locs, Pt.cells, Pt.slots] at X' hS' hgr l1 y1 z1 st hQ
    subst l1 y1 z1
    obtain ⟨k0, hS, hk0⟩ := (B : ∃ k0, s.Since vm0 k0 ∧ k0 ≤ h.size)
    obtain ⟨s₂, o, h1, h2⟩ := H v T'.heap hQ.1 T' _ T'.vm X' ⟨_, foldS hS (by rw [eT]; exact hk0) hS' hgr, Nat.le_refl _⟩ rfl (N.app hQ.2)
    exact ⟨s₂, o, st.trans h1, h2⟩
theorem Wk.callV (C : Cx Z p s m meth c y bytes maxL ret) {x z : MethodName} {K : String} {index : Nat} {bz : ByteArray} {mz : Nat} {rz : Option FieldType} {rm : Room} {a : Addr} {asL : List Value} {Qz : Option Value → Heap → Prop}
    (w1 : (Cond.methodLink y.cls index x).before a0 Z = true) (w2 : (Cond.declares x).before a0 Z = true) (w5 : (Cond.selects K x z).before a0 Z = true) (w6 : (Cond.instanceMethod z).before a0 Z = true) (w3 : (Cond.initialized z.cls).before a0 Z = true) (w4 : (Cond.code z bz mz rz).before a0 Z = true)
    (hz : x.cls ≠ "java/lang/invoke/MethodHandle" ∧ x.cls ≠ "java/lang/invoke/VarHandle") (hnf : ∀ s' : State, Z.Warmed39 s'.vm → NotFace s' x) (E : Exa Z h a K) (M : Met W l Z n0 z bz mz rz rm (.ref a :: asL).toArray h Qz) {w : Nat} (hf : rm.frames + 1 ≤ R.frames) (hl : w + (mz + 11) + rm.locals ≤ R.locals)
    {ps : List FieldType} {r : Option FieldType} (hlen : parseMethodDescriptor x.desc = some ⟨ps, r⟩) (hps : asL.length = ps.length) {pc : Nat} {Ls : Array Slot} {st rest : List Value} (hls : Ls.size = maxL) (hst : st = asL.reverse ++ .ref a :: rest) (hw : (rest.map fun v => v.category).sum ≤ w)
    (hc : k + rm.cells ≤ R.cells) (hs : n + rm.slots ≤ R.slots) (hd : decode bytes pc = .ok (.invokevirtual index, 3))
    (H : ∀ v h', Qz v h' → Wk W p l e R s m args below meth c n0 Q h' (k + rm.cells) (n + rm.slots) (mkF m (pc + 3) Ls (v.toList ++ rest))) : Wk W p l e R s m args below meth c n0 Q h k n (mkF m pc Ls st) := by
  intro T L vm0 X B eT N
  subst hst
  have hZ := C.wZ B
  have ho := C.wo B
  have hw' : 2 * (mkF m pc Ls (asL.reverse ++ .ref a :: rest)).monitorRoom + (rest.map fun v => v.category).sum ≤ w := by show 2 * 0 + _ ≤ _; omega
  obtain ⟨cq, kq, qa, qb, qc⟩ := isOf hZ eT E
  cases W
  · obtain ⟨v, vm₁, ⟨T', L', k', n'⟩, -, X', ⟨Lc, hQ, l1, y1, z1⟩, st⟩ := X.virtualBack C.hx (y := x) (z := z) ho (mvT hZ w1) (mvT hZ w2) (hnf _ hZ) (mvT hZ w5) (mvT hZ w6) hz (backOf (W := w) (Q := fun v h L => Qz v h ∧ Fr n0 L) (M []) hZ w4 w3 hf hl) qa qc (g := mkF m pc Ls (asL.reverse ++ .ref a :: rest)) rfl (hls.trans C.hml.symm) (Steps.refl _) (argsL := asL) (rest := rest) (lenOf hlen hps) rfl hw' (hb C.hby hd) (fun _ _ => ⟨rfl, eT, hc, hs⟩)
    dsimp only [Pt.U, Pt.locs, Pt.cells, Pt.slots] at X' l1 y1 z1 st hQ
    subst l1 y1 z1
    obtain ⟨s₂, o, h1, h2⟩ := H v T'.heap hQ.1 T' _ vm0 X' (B : vm0 = s.vm) rfl (N.app hQ.2)
    exact ⟨s₂, o, st.trans h1, h2⟩
  · obtain ⟨v, vm₁, ⟨T', L', k', n'⟩, -, X', hS', hgr, ⟨Lc, hQ, l1, y1, z1⟩, st⟩ := X.virtualBackS C.hx (y := x) (z := z) ho (mvT hZ w1) (mvT hZ w2) (hnf _ hZ) (mvT hZ w5) (mvT hZ w6) hz (backOfS (W := w) (Q := fun v h L => Qz v h ∧ Fr n0 L) (M []) hZ w4 w3 hf hl) qa qc (g := mkF m pc Ls (asL.reverse ++ .ref a :: rest)) rfl (hls.trans C.hml.symm) (Steps.refl _) (argsL := asL) (rest := rest) (lenOf hlen hps) rfl hw' (hb C.hby hd) (fun _ _ => ⟨rfl, eT, hc, hs⟩)
    dsimp only [Pt.U, Pt.locs, Pt.cells, Pt.slots] at X' hS' hgr l1 y1 z1 st hQ
    subst l1 y1 z1
    obtain ⟨k0, hS, hk0⟩ := (B : ∃ k0, s.Since vm0 k0 ∧ k0 ≤ h.size)
    obtain ⟨s₂, o, h1, h2⟩ := H v T'.heap hQ.1 T' _ T'.vm X' ⟨_, foldS hS (by rw [eT]; exact hk0) hS' hgr, Nat.le_refl _⟩ rfl (N.app hQ.2)
    exact ⟨s₂, o, st.trans h1, h2⟩
theorem Wk.callU (C : Cx Z p s m meth c y bytes maxL ret) {x z : MethodName} {K owner : String} {index : Nat} {bz : ByteArray} {mz : Nat} {rz : Option FieldType} {rm : Room} {a : Addr} {asL : List Value} {Qz : Option Value → Heap → Prop}
    (w1 : (Cond.methodLink y.cls index x).before a0 Z = true) (w7 : (Cond.sameMethod x.cls owner x.name x.desc).before a0 Z = true) (w2 : (Cond.declares ⟨owner, x.name, x.desc⟩).before a0 Z = true) (w5 : (Cond.selects K x z).before a0 Z = true) (w6 : (Cond.instanceMethod z).before a0 Z = true) (w3 : (Cond.initialized z.cls).before a0 Z = true) (w4 : (Cond.code z bz mz rz).before a0 Z = true)
    (hz : owner ≠ "java/lang/invoke/MethodHandle" ∧ owner ≠ "java/lang/invoke/VarHandle") (E : Exa Z h a K) (M : Met W l Z n0 z bz mz rz rm (.ref a :: asL).toArray h Qz) {w : Nat} (hf : rm.frames + 1 ≤ R.frames) (hl : w + (mz + 11) + rm.locals ≤ R.locals)
    {ps : List FieldType} {r : Option FieldType} (hlen : parseMethodDescriptor x.desc = some ⟨ps, r⟩) (hps : asL.length = ps.length) {pc : Nat} {Ls : Array Slot} {st rest : List Value} (hls : Ls.size = maxL) (hst : st = asL.reverse ++ .ref a :: rest) (hw : (rest.map fun v => v.category).sum ≤ w)
    (hc : k + rm.cells ≤ R.cells) (hs : n + rm.slots ≤ R.slots) (hd : decode bytes pc = .ok (.invokevirtual index, 3))
    (H : ∀ v h', Qz v h' → Wk W p l e R s m args below meth c n0 Q h' (k + rm.cells) (n + rm.slots) (mkF m (pc + 3) Ls (v.toList ++ rest))) : Wk W p l e R s m args below meth c n0 Q h k n (mkF m pc Ls st) := by
  intro T L vm0 X B eT N
  subst hst
  have hZ := C.wZ B
  have ho := C.wo B
  have hw' : 2 * (mkF m pc Ls (asL.reverse ++ .ref a :: rest)).monitorRoom + (rest.map fun v => v.category).sum ≤ w := by show 2 * 0 + _ ≤ _; omega
  obtain ⟨cq, kq, qa, qb, qc⟩ := isOf hZ eT E
  cases W
  · obtain ⟨v, vm₁, ⟨T', L', k', n'⟩, -, X', ⟨Lc, hQ, l1, y1, z1⟩, st⟩ := X.virtualBackUp C.hx (x := x) (y := z) ho (mvT hZ w1) (mvT hZ w7) (mvT hZ w2) hz (mvT hZ w5) (mvT hZ w6) (backOf (W := w) (Q := fun v h L => Qz v h ∧ Fr n0 L) (M []) hZ w4 w3 hf hl) qa qc (g := mkF m pc Ls (asL.reverse ++ .ref a :: rest)) rfl (hls.trans C.hml.symm) (Steps.refl _) (argsL := asL) (rest := rest) (lenOf hlen hps) rfl hw' (hb C.hby hd) (fun _ _ => ⟨rfl, eT, hc, hs⟩)
    dsimp only [Pt.U, Pt.locs, Pt.cells, Pt.slots] at X' l1 y1 z1 st hQ
    subst l1 y1 z1
    obtain ⟨s₂, o, h1, h2⟩ := H v T'.heap hQ.1 T' _ vm0 X' (B : vm0 = s.vm) rfl (N.app hQ.2)
    exact ⟨s₂, o, st.trans h1, h2⟩
  · obtain ⟨v, vm₁, ⟨T', L', k', n'⟩, -, X', hS', hgr, ⟨Lc, hQ, l1, y1, z1⟩, st⟩ := X.virtualBackUpS C.hx (x := x) (y := z) ho (mvT hZ w1) (mvT hZ w7) (mvT hZ w2) hz (mvT hZ w5) (mvT hZ w6) (backOfS (W := w) (Q := fun v h L => Qz v h ∧ Fr n0 L) (M []) hZ w4 w3 hf hl) qa qc (g := mkF m pc Ls (asL.reverse ++ .ref a :: rest)) rfl (hls.trans C.hml.symm) (Steps.refl _) (argsL := asL) (rest := rest) (lenOf hlen hps) rfl hw' (hb C.hby hd) (fun _ _ => ⟨rfl, eT, hc, hs⟩)
    dsimp only [Pt.U, Pt.locs, Pt.cells, Pt.slots] at X' hS' hgr l1 y1 z1 st hQ
    subst l1 y1 z1
    obtain ⟨k0, hS, hk0⟩ := (B : ∃ k0, s.Since vm0 k0 ∧ k0 ≤ h.size)
    obtain ⟨s₂, o, h1, h2⟩ := H v T'.heap hQ.1 T' _ T'.vm X' ⟨_, foldS hS (by rw [eT]; exact hk0) hS' hgr, Nat.le_refl _⟩ rfl (N.app hQ.2)
    exact ⟨s₂, o, st.trans h1, h2⟩
theorem Wk.ldcS (C : Cx Z p s m meth c y bytes maxL ret) {index : Nat} {text : String} (w : (Cond.stringLink y.cls index text).before a0 Z = true) (wS : ∀ d ∈ Bundle.stringAtoms, d.before a0 Z = true) {N : Nat} (hn : 4 * text.toList.length ≤ N) (hbig : N ≤ 536870912) {pc : Nat} {Ls : Array Slot} {st : List Value} (hd : decode bytes pc = .ok (.ldc index, 2)) (hc : k + 2 ≤ R.cells) (hl : n + (N + 4) ≤ R.slots)
    (H : ∀ h' a, Ext h h' → Wk true p l e R s m args below meth c n0 Q h' (k + 2) (n + (N + 4)) (mkF m (pc + 2) Ls (.ref a :: st))) : Wk true p l e R s m args below meth c n0 Q h k n (mkF m pc Ls st) := by
  intro T L vm0 X B eT N'
  have hZ := C.wZ B
  have ho := C.wo B
  obtain ⟨k0, hS, hk0⟩ := (B : ∃ k0, s.Since vm0 k0 ∧ k0 ≤ h.size)
  obtain ⟨a, T', h', k1, X', e', E, hS', hk1, -, -, st⟩ := Jvm.RoadKit.ldcS X C.hx hZ ho w wS eT hS hk0 (g := mkF m pc Ls st) rfl (hb C.hby hd) hn hbig hc hl
  obtain ⟨s₂, o, h1, h2⟩ := H h' a E T' L T'.vm X' ⟨k1, hS', hk1⟩ e' N'
  exact ⟨s₂, o, st _ h1, h2⟩
end Rules
theorem ext_trans {h h' h'' : Heap} (E : Ext h h') (E' : Ext h' h'') : Ext h h'' := ⟨Nat.le_trans E.1 E'.1, fun a c q => E'.2 a c (E.2 a c q)⟩
theorem ext_refl (h : Heap) : Ext h h := ⟨Nat.le_refl _, fun _ _ q => q⟩
end Jvm.Own
namespace Jvm.Own
open Jvm Jvm.ClassFile Sem Op Lib Jvm.Free Jvm.Stand Jvm.LawKit Jvm.RoadKit
/-! statics that hold objects, told apart by a field -/
theorem stat_exa {args : Array Value} {s : State} {C n d K : String} (wi : (Cond.initialized C).before args s = true) (wl : (Cond.laysStatic C n d).before args s = true) (hx : (Cond.exactly (Term.static C n d) K).value args s none s [] = some true) :
    ∃ a, (Term.static C n d).eval args s none [] s = some (.ref a) ∧ Sta s s.heap C n d (.ref a) ∧ Exa s s.heap a K := by
  obtain ⟨a, ev⟩ := exa_v hx
  exact ⟨a, ev, Sta.start ev (Or.inr ⟨wi, wl⟩), Exa.start ev hx⟩
theorem fld_int {args : Array Value} {s : State} {t : Term} {a : Addr} {O f d : String} {i : Int32} (ev : t.eval args s none [] s = some (.ref a)) (hq : (Cond.eq (Term.field t O f d) (Term.int i)).value args s none s [] = some true) : Fld s s.heap a O f d (.int i) := by
  refine Fld.start ?_
  obtain ⟨x, y, h1, h2, k1, k2⟩ := cmp_v (Or.inl hq)
  cases (show some (Value.int i) = some y from h2)
  obtain ⟨z, rfl⟩ := k2
  have q := gotT (show (Cond.eq (Term.field t O f d) (Term.int i)).value args s none s [] = some (decide (z = i)) by simp [Cond.value, h1, h2]) hq
  subst q
  rw [fld_at ev] at h1; exact h1
theorem fld_uniq {Z : State} {h : Heap} {a : Addr} {O f d : String} {v w : Value} (F : Fld Z h a O f d v) (G : Fld Z h a O f d w) : v = w := by
  obtain ⟨c1, cf, k, i, fd, h1, h2, -, -, -, -, h7⟩ := F
  obtain ⟨c2, cf', k', i', fd', g1, g2, -, -, -, -, g7⟩ := G
  cases h1.symm.trans g1
  cases h2.symm.trans g2
  exact Option.some.inj (h7.symm.trans g7)
theorem ne_fld {Z : State} {h : Heap} {a b : Addr} {O f d : String} {v w : Value} (F : Fld Z h a O f d v) (G : Fld Z h b O f d w) (q : v ≠ w) : a ≠ b := fun e => by
  subst e; exact q (fld_uniq F G)
theorem mod_range (p k : Int32) (d : Int) (hd : k.toInt = d) (h0 : 0 < d) : 0 ≤ ((p &&& 2147483647) % k).toInt ∧ ((p &&& 2147483647) % k).toInt < d := by
  have h1 := (c_andS p 2147483647).2.2 (by decide)
  have h2 := (c_irem (p &&& 2147483647) k d hd).1 h1
  rw [h2]
  exact ⟨Int.emod_nonneg _ (by omega), Int.emod_lt_of_pos _ h0⟩
theorem mod6 (p : Int32) : (p &&& 2147483647) % 6 = 0 ∨ (p &&& 2147483647) % 6 = 1 ∨ (p &&& 2147483647) % 6 = 2 ∨ (p &&& 2147483647) % 6 = 3 ∨ (p &&& 2147483647) % 6 = 4 ∨ (p &&& 2147483647) % 6 = 5 := by
  have h := mod_range p 6 6 (by decide) (by decide)
  generalize (p &&& 2147483647) % 6 = r at h ⊢
  have q : r.toInt = 0 ∨ r.toInt = 1 ∨ r.toInt = 2 ∨ r.toInt = 3 ∨ r.toInt = 4 ∨ r.toInt = 5 := by omega
  rcases q with q | q | q | q | q | q
  · exact Or.inl (Int32.toInt_inj.mp q)
  · exact Or.inr (Or.inl (Int32.toInt_inj.mp q))
  · exact Or.inr (Or.inr (Or.inl (Int32.toInt_inj.mp q)))
  · exact Or.inr (Or.inr (Or.inr (Or.inl (Int32.toInt_inj.mp q))))
  · exact Or.inr (Or.inr (Or.inr (Or.inr (Or.inl (Int32.toInt_inj.mp q)))))
  · exact Or.inr (Or.inr (Or.inr (Or.inr (Or.inr (Int32.toInt_inj.mp q)))))
theorem mod3 (p : Int32) : (p &&& 2147483647) % 3 = 0 ∨ (p &&& 2147483647) % 3 = 1 ∨ (p &&& 2147483647) % 3 = 2 := by
  have h := mod_range p 3 3 (by decide) (by decide)
  generalize (p &&& 2147483647) % 3 = r at h ⊢
  have q : r.toInt = 0 ∨ r.toInt = 1 ∨ r.toInt = 2 := by omega
  rcases q with q | q | q
  · exact Or.inl (Int32.toInt_inj.mp q)
  · exact Or.inr (Or.inl (Int32.toInt_inj.mp q))
  · exact Or.inr (Or.inr (Int32.toInt_inj.mp q))
end Jvm.Own
namespace Jvm.Own
open Jvm Jvm.ClassFile Sem Op Lib Jvm.Free Jvm.Stand Jvm.LawKit Jvm.RoadKit
/-! the same layer where one String constant's entry is followed: lt = some (class, entry, object) once it is loaded; a second load makes nothing -/
def Lx (lt : Option (String × Nat × Addr)) (s : State) : Prop := match lt with
  | none => True
  | some (o, i, a) => Lit s o i a
theorem Lx.of_vm {lt : Option (String × Nat × Addr)} {s t : State} (h : Lx lt s) (e : t.vm = s.vm) : Lx lt t := by
  rcases lt with _ | ⟨o, i, a⟩
  · trivial
  · exact (show t.resolvedAt? o i = (s.setVm t.vm).resolvedAt? o i from rfl).trans (by rw [e]; exact h)
theorem Lx.stays {lt : Option (String × Nat × Addr)} {s : State} {vm' : Vm} (h : Lx lt s) (hW : s.Warmed39 vm') : Lx lt (s.setVm vm') := by
  rcases lt with _ | ⟨o, i, a⟩
  · trivial
  · exact State.resolvedAt?_warmed39 hW h
def Wl (p : Program) (l : Launch) (e : Env) (R : Room) (s : State) (m : MethodId) (args : Array Value) (below : List Frame) (meth : Method) (c : Code) (n0 : Nat) (Q : Option Value → Heap → Option (String × Nat × Addr) → Prop) (lt : Option (String × Nat × Addr)) (h : Heap) (k n : Nat) (g : JFrame) : Prop :=
  ∀ T L vm0, Stand p l e R (s.setVm vm0) m args below meth c T L k n → Bs true s vm0 h.size → T.heap = h → Fr n0 L → Lx lt (s.setVm vm0) →
    ∃ s₂ o, Steps p.tables e below (T.setTop g) s₂ ∧ s₂.status = .running ∧ Ended s₂ below o ∧ ∃ v L lt', o = .returned v ∧ (Q v s₂.heap lt' ∧ Fr n0 L) ∧ Lx lt' s₂ ∧ ReturnedEndW s o s₂ L R.cells R.slots
def MetL (l : Launch) (Z : State) (n0 : Nat) (y : MethodName) (bytes : ByteArray) (maxL : Nat) (ret : Option FieldType) (rm : Room) (as : Array Value) (lt : Option (String × Nat × Addr)) (h : Heap) (Q : Option Value → Heap → Option (String × Nat × Addr) → Prop) : Prop :=
  ∀ ws, MetFree l y (head1 (Cond.code y bytes maxL ret :: ws) rm) (fun a U => a = as ∧ Z.Warmed39 U.vm ∧ U.heap = h ∧ Lx lt U) (fun _ _ _ _ _ => True)
    (fun _ U o U' => ∃ v L lt', o = .returned v ∧ (Q v U'.heap lt' ∧ Fr n0 L) ∧ Lx lt' U' ∧ ReturnedEndW U o U' L rm.cells rm.slots)
theorem Met.toL {l : Launch} {Z : State} {n0 : Nat} {y : MethodName} {bytes : ByteArray} {maxL : Nat} {ret : Option FieldType} {rm : Room} {as : Array Value} {h : Heap} {Q : Option Value → Heap → Prop} (M : Met true l Z n0 y bytes maxL ret rm as h Q) (lt : Option (String × Nat × Addr)) : MetL l Z n0 y bytes maxL ret rm as lt h (fun v h' lt' => Q v h' ∧ lt' = lt) := by
  intro ws p e ha hc hk s m args below hf happ hP hK
  obtain ⟨q1, q2, q3, q4⟩ := hP
  obtain ⟨n, o, h1, h2, h3, v, L, h4, ⟨h5, h6⟩, h7⟩ := M ws p e ha hc hk s m args below hf happ ⟨q1, q2, q3⟩ hK
  exact ⟨n, o, h1, h2, h3, v, L, lt, h4, ⟨⟨h5, rfl⟩, h6⟩, (q4.stays h7.2.1).of_vm rfl, h7⟩
theorem MetL.of {l : Launch} {Z : State} {n0 : Nat} {y : MethodName} {bytes : ByteArray} {maxL : Nat} {ret : Option FieldType} {rm : Room} {as : Array Value} {lt : Option (String × Nat × Addr)} {h : Heap} {Q : Option Value → Heap → Option (String × Nat × Addr) → Prop}
    (hpn : plainName y.cls = true) (Ls : Array Slot) (hef : ∀ m, entryFrame m as maxL = mkF m 0 Ls [])
    (H : ∀ p e s m below meth c, Cx Z p s m meth c y bytes maxL ret → Wl p l e rm s m as below meth c n0 Q lt h 0 0 (mkF m 0 Ls [])) : MetL l Z n0 y bytes maxL ret rm as lt h Q := by
  intro ws
  refine MetFree.of_bodySF (plainFor_of_name hpn) hisR ?_
  intro p e s m args below meth c s₁ Bd hml0 hP hK
  obtain ⟨ha, hZ, hh, hl⟩ := hP
  have hown := findClass_of_methodNamed Bd.named
  have hnm := (name_of_methodNamed Bd.named Bd.method).1
  have e0 : s₁.heap = h := by rw [← hh, Bd.state]; rfl
  have X0 : Stand p l e rm s m args below meth c s₁ [] 0 0 := Stand.of_body Bd
  rw [ha] at X0 ⊢
  obtain ⟨s₂, o, h1, h2⟩ := H p e s m below meth c ⟨Bd.exec, Bd.bytes, hml0, hZ, hown, hnm, Bd.returns, Bd.notSynchronized⟩ s₁ [] s.vm X0 (Bs.start true s _) e0 (Fr.nil n0) (hl.of_vm rfl)
  exact ⟨s₂, o, castTop (hef m) h1, h2⟩
section Rules
variable {Z : State} {p : Program} {l : Launch} {e : Env} {R : Room} {s : State} {m : MethodId} {args : Array Value} {below : List Frame} {meth : Method} {c : Code} {y : MethodName} {bytes : ByteArray} {maxL : Nat} {ret : Option FieldType} {n0 : Nat} {Q : Option Value → Heap → Option (String × Nat × Addr) → Prop} {lt : Option (String × Nat × Addr)} {h : Heap} {k n : Nat} {g g' : JFrame} {a0 : Array Value}
theorem Wl.st (f : ∀ {T : State} {L : List Loc} {vm0 : Vm}, Stand p l e R (s.setVm vm0) m args below meth c T L k n → ∀ t, Steps p.tables e below (T.setTop g') t → Steps p.tables e below (T.setTop g) t)
    (H : Wl p l e R s m args below meth c n0 Q lt h k n g') : Wl p l e R s m args below meth c n0 Q lt h k n g := by
  intro T L vm0 X B eT N Lz
  obtain ⟨s₂, o, h1, h2⟩ := H T L vm0 X B eT N Lz
  exact ⟨s₂, o, f X _ h1, h2⟩
theorem Wl.stZ (C : Cx Z p s m meth c y bytes maxL ret) (f : ∀ {T : State} {L : List Loc} {vm0 : Vm}, Stand p l e R (s.setVm vm0) m args below meth c T L k n → Z.Warmed39 (s.setVm vm0).vm → (s.setVm vm0).vm.findClass y.cls = some m.cls → T.heap = h → ∃ T', Stand p l e R (s.setVm vm0) m args below meth c T' L k n ∧ T'.heap = h ∧ ∀ t, Steps p.tables e below (T'.setTop g') t → Steps p.tables e below (T.setTop g) t)
    (H : Wl p l e R s m args below meth c n0 Q lt h k n g') : Wl p l e R s m args below meth c n0 Q lt h k n g := by
  intro T L vm0 X B eT N Lz
  obtain ⟨T', X', e', st⟩ := f X (C.wZ B) (C.wo B) eT
  obtain ⟨s₂, o, h1, h2⟩ := H T' L vm0 X' B e' N Lz
  exact ⟨s₂, o, st _ h1, h2⟩
theorem Wl.ldcI (C : Cx Z p s m meth c y bytes maxL ret) {index : Nat} {v : Int32} (w : (Cond.constant y.cls index v).before a0 Z = true) {pc : Nat} {Ls : Array Slot} {st : List Value} (hd : decode bytes pc = .ok (.ldc index, 2))
    (H : Wl p l e R s m args below meth c n0 Q lt h k n (mkF m (pc + 2) Ls (.int v :: st))) : Wl p l e R s m args below meth c n0 Q lt h k n (mkF m pc Ls st) :=
  Wl.stZ C (fun X hZ ho eT => ⟨_, X, eT, fun t q => X.ldcI C.hx ho (mvT hZ w) rfl (hb C.hby hd) q⟩) H
theorem Wl.getS (C : Cx Z p s m meth c y bytes maxL ret) {O nm d : String} {index : Nat} (w : (Cond.fieldLink y.cls index O nm d).before a0 Z = true) {v : Value} (F : Sta Z h O nm d v) {pc : Nat} {Ls : Array Slot} {st : List Value} (hd : decode bytes pc = .ok (.getstatic index, 3))
    (H : Wl p l e R s m args below meth c n0 Q lt h k n (mkF m (pc + 3) Ls (v :: st))) : Wl p l e R s m args below meth c n0 Q lt h k n (mkF m pc Ls st) :=
  Wl.stZ C (fun X hZ ho eT => Jvm.RoadKit.getS (host := "") X C.hx hZ ho w Via.refl eT F (g := mkF m pc Ls st) rfl (hb C.hby hd)) H
theorem Wl.retV (C : Cx Z p s m meth c y bytes maxL ret) {pc : Nat} {Ls : Array Slot} {w : Value} {t : FieldType} {i : Instr} {rest : List Value} (ht : ret = some t) (hn : narrow t w = w)
    (hi : (i = .ireturn ∧ (t = .int ∨ t = .boolean ∨ t = .byte ∨ t = .char ∨ t = .short) ∧ ∃ z, w = .int z) ∨ (i = .lreturn ∧ t = .long ∧ ∃ z, w = .long z) ∨ (i = .dreturn ∧ t = .double ∧ ∃ z, w = .double z) ∨ (i = .freturn ∧ t = .float ∧ ∃ z, w = .float z) ∨ (i = .areturn ∧ t.isReference = true ∧ w.isRef = true))
    (hd : decode bytes pc = .ok (i, 1)) (hk : k ≤ R.cells) (hs : n ≤ R.slots) (hq : Q (some w) h lt) : Wl p l e R s m args below meth c n0 Q lt h k n (mkF m pc Ls (w :: rest)) := by
  intro T L vm0 X B eT N Lz
  have hlk := C.hlk
  have hv : meth.sig.returnType = none → (some w : Option Value) = none := fun h => by rw [C.hret, ht] at h; cases h
  obtain ⟨k0, hS, hk0⟩ := (B : ∃ k0, s.Since vm0 k0 ∧ k0 ≤ h.size)
  obtain ⟨fs, hr, hrun, hended, hE⟩ := X.leaveW hS (by rw [eT]; exact hk0) (v := some w) hv hlk
  refine ⟨_, _, retOut X C.hx (C.hret.trans ht) hn hi (hb C.hby hd) hr, hrun, hended, _, L, lt, rfl, ⟨?_, N⟩, (Lz.stays X.warmed.wide).of_vm rfl, hE.1, hE.2.1, hE.2.2.1, hE.2.2.2.mono hk hs⟩
  show Q (some w) T.heap lt
  rw [eT]; exact hq
theorem backL {y : MethodName} {bytes : ByteArray} {maxL : Nat} {ret : Option FieldType} {rm : Room} {len W : Nat} {as' : Array Value} {Q : Option Value → Heap → Option (String × Nat × Addr) → Prop}
    (hM : MetL l Z n0 y bytes maxL ret rm as' lt h Q) {vm0 : Vm} (hZ : Z.Warmed39 (s.setVm vm0).vm) (hl0 : Lx lt (s.setVm vm0)) (wc : (Cond.code y bytes maxL ret).before a0 Z = true) (wz : (Cond.initialized y.cls).before a0 Z = true) (hf : rm.frames + 1 ≤ R.frames) (hl : W + (maxL + 11) + rm.locals ≤ R.locals) :
    BackS l R p e below (s.setVm vm0) args y len W (fun A a => a = as' ∧ A.U.heap = h ∧ A.cells + rm.cells ≤ R.cells ∧ A.slots + rm.slots ≤ R.slots)
      (fun A _ v B => ∃ L lt', (Q v B.U.heap lt' ∧ Fr n0 L) ∧ Lx lt' B.U ∧ B.locs = A.locs ++ L ∧ B.cells = A.cells + rm.cells ∧ B.slots = A.slots + rm.slots) :=
  BackS.of_freeW (bytes := bytes) (maxL := maxL) (ret := ret) (E := fun _ _ o t L k n => k = rm.cells ∧ n = rm.slots ∧ ∃ v lt', o = .returned v ∧ (Q v t.heap lt' ∧ Fr n0 L) ∧ Lx lt' t) (hM []) hf hl
    (fun m meth c A a Y hp => have hU : Z.Warmed39 A.U.vm := wtrans hZ Y.warmed
      ⟨by show (Cond.and _ .tt).before a A.U = true; rw [Cond.before_and, mv hU wc]; rfl, mv hU wc, mv hU wz, hp.2.2.1, hp.2.2.2⟩)
    (fun m meth c A a g mk Y hp => ⟨hp.1, wtrans hZ Y.warmed, hp.2.1, (hl0.stays Y.warmed.wide).of_vm rfl⟩) (fun _ _ _ _ _ _ _ _ _ => trivial)
    (fun _ _ _ _ ⟨v, L, lt', h1, h2, h3, h4⟩ => ⟨L, _, _, h4, rfl, rfl, v, lt', h1, h2, h3⟩)
    (fun m meth c A a g mk v t L k n Y hp _ _ ⟨e1, e2, v', lt', e3, e4, e5⟩ => by cases e3; subst e1 e2; exact ⟨L, lt', e4, e5.of_vm rfl, rfl, rfl, rfl⟩)
theorem Wl.callS (C : Cx Z p s m meth c y bytes maxL ret) {z : MethodName} {index : Nat} {bz : ByteArray} {mz : Nat} {rz : Option FieldType} {rm : Room} {asL : List Value} {Qz : Option Value → Heap → Option (String × Nat × Addr) → Prop}
    (w1 : (Cond.methodLink y.cls index z).before a0 Z = true) (w2 : (Cond.static z).before a0 Z = true) (w3 : (Cond.initialized z.cls).before a0 Z = true) (w4 : (Cond.code z bz mz rz).before a0 Z = true)
    (hz : z.cls ≠ "java/lang/invoke/MethodHandle" ∧ z.cls ≠ "java/lang/invoke/VarHandle") (M : MetL l Z n0 z bz mz rz rm asL.toArray lt h Qz) {w : Nat} (hf : rm.frames + 1 ≤ R.frames) (hl : w + (mz + 11) + rm.locals ≤ R.locals)
    {ps : List FieldType} {r : Option FieldType} (hlen : parseMethodDescriptor z.desc = some ⟨ps, r⟩) (hps : asL.length = ps.length) {pc : Nat} {Ls : Array Slot} {st rest : List Value} (hls : Ls.size = maxL) (hst : st = asL.reverse ++ rest) (hw : (rest.map fun v => v.category).sum ≤ w)
    (hc : k + rm.cells ≤ R.cells) (hs : n + rm.slots ≤ R.slots) (hd : decode bytes pc = .ok (.invokestatic index, 3))
    (H : ∀ v h' lt', Qz v h' lt' → Wl p l e R s m args below meth c n0 Q lt' h' (k + rm.cells) (n + rm.slots) (mkF m (pc + 3) Ls (v.toList ++ rest))) : Wl p l e R s m args below meth c n0 Q lt h k n (mkF m pc Ls st) := by
  intro T L vm0 X B eT N Lz
  subst hst
  have hZ := C.wZ B
  have ho := C.wo B
  have hw' : 2 * (mkF m pc Ls (asL.reverse ++ rest)).monitorRoom + (rest.map fun v => v.category).sum ≤ w := by show 2 * 0 + _ ≤ _; omega
  obtain ⟨v, vm₁, ⟨T', L', k', n'⟩, -, X', hS', hgr, ⟨Lc, lt', hQ, hL, l1, y1, z1⟩, st⟩ := callSS X C.hx ho (mvT hZ w1) (mvT hZ w2) (mvT hZ w3) (mvT hZ w4) hz (backL (W := w) M hZ Lz w4 w3 hf hl) (g := mkF m pc Ls (asL.reverse ++ rest)) rfl (hls.trans C.hml.symm) (argsL := asL) (rest := rest) (lenOf hlen hps) rfl hw' (hb C.hby hd) (fun _ _ => ⟨rfl, eT, hc, hs⟩)
  dsimp only [Pt.U, Pt.locs, Pt.cells, Pt.slots] at X' hS' hgr l1 y1 z1 st hQ hL
  subst l1 y1 z1
  obtain ⟨k0, hS, hk0⟩ := (B : ∃ k0, s.Since vm0 k0 ∧ k0 ≤ h.size)
  obtain ⟨s₂, o, h1, h2⟩ := H v T'.heap lt' hQ.1 T' _ T'.vm X' ⟨_, foldS hS (by rw [eT]; exact hk0) hS' hgr, Nat.le_refl _⟩ rfl (N.app hQ.2) (hL.of_vm rfl)
  exact ⟨s₂, o, st.trans h1, h2⟩
theorem Wl.callV (C : Cx Z p s m meth c y bytes maxL ret) {x z : MethodName} {K : String} {index : Nat} {bz : ByteArray} {mz : Nat} {rz : Option FieldType} {rm : Room} {a : Addr} {asL : List Value} {Qz : Option Value → Heap → Option (String × Nat × Addr) → Prop}
    (w1 : (Cond.methodLink y.cls index x).before a0 Z = true) (w2 : (Cond.declares x).before a0 Z = true) (w5 : (Cond.selects K x z).before a0 Z = true) (w6 : (Cond.instanceMethod z).before a0 Z = true) (w3 : (Cond.initialized z.cls).before a0 Z = true) (w4 : (Cond.code z bz mz rz).before a0 Z = true)
    (hz : x.cls ≠ "java/lang/invoke/MethodHandle" ∧ x.cls ≠ "java/lang/invoke/VarHandle") (hnf : ∀ s' : State, Z.Warmed39 s'.vm → NotFace s' x) (E : Exa Z h a K) (M : MetL l Z n0 z bz mz rz rm (.ref a :: asL).toArray lt h Qz) {w : Nat} (hf : rm.frames + 1 ≤ R.frames) (hl : w + (mz + 11) + rm.locals ≤ R.locals)
    {ps : List FieldType} {r : Option FieldType} (hlen : parseMethodDescriptor x.desc = some ⟨ps, r⟩) (hps : asL.length = ps.length) {pc : Nat} {Ls : Array Slot} {st rest : List Value} (hls : Ls.size = maxL) (hst : st = asL.reverse ++ .ref a :: rest) (hw : (rest.map fun v => v.category).sum ≤ w)
    (hc : k + rm.cells ≤ R.cells) (hs : n + rm.slots ≤ R.slots) (hd : decode bytes pc = .ok (.invokevirtual index, 3))
    (H : ∀ v h' lt', Qz v h' lt' → Wl p l e R s m args below meth c n0 Q lt' h' (k + rm.cells) (n + rm.slots) (mkF m (pc + 3) Ls (v.toList ++ rest))) : Wl p l e R s m args below meth c n0 Q lt h k n (mkF m pc Ls st) := by
  intro T L vm0 X B eT N Lz
  subst hst
  have hZ := C.wZ B
  have ho := C.wo B
  have hw' : 2 * (mkF m pc Ls (asL.reverse ++ .ref a :: rest)).monitorRoom + (rest.map fun v => v.category).sum ≤ w := by show 2 * 0 + _ ≤ _; omega
  obtain ⟨cq, kq, qa, qb, qc⟩ := isOf hZ eT E
  obtain ⟨v, vm₁, ⟨T', L', k', n'⟩, -, X', hS', hgr, ⟨Lc, lt', hQ, hL, l1, y1, z1⟩, st⟩ := X.virtualBackS C.hx (y := x) (z := z) ho (mvT hZ w1) (mvT hZ w2) (hnf _ hZ) (mvT hZ w5) (mvT hZ w6) hz (backL (W := w) M hZ Lz w4 w3 hf hl) qa qc (g := mkF m pc Ls (asL.reverse ++ .ref a :: rest)) rfl (hls.trans C.hml.symm) (Steps.refl _) (argsL := asL) (rest := rest) (lenOf hlen hps) rfl hw' (hb C.hby hd) (fun _ _ => ⟨rfl, eT, hc, hs⟩)
  dsimp only [Pt.U, Pt.locs, Pt.cells, Pt.slots] at X' hS' hgr l1 y1 z1 st hQ hL
  subst l1 y1 z1
  obtain ⟨k0, hS, hk0⟩ := (B : ∃ k0, s.Since vm0 k0 ∧ k0 ≤ h.size)
  obtain ⟨s₂, o, h1, h2⟩ := H v T'.heap lt' hQ.1 T' _ T'.vm X' ⟨_, foldS hS (by rw [eT]; exact hk0) hS' hgr, Nat.le_refl _⟩ rfl (N.app hQ.2) (hL.of_vm rfl)
  exact ⟨s₂, o, st.trans h1, h2⟩
theorem Wl.callU (C : Cx Z p s m meth c y bytes maxL ret) {x z : MethodName} {K owner : String} {index : Nat} {bz : ByteArray} {mz : Nat} {rz : Option FieldType} {rm : Room} {a : Addr} {asL : List Value} {Qz : Option Value → Heap → Option (String × Nat × Addr) → Prop}
    (w1 : (Cond.methodLink y.cls index x).before a0 Z = true) (w7 : (Cond.sameMethod x.cls owner x.name x.desc).before a0 Z = true) (w2 : (Cond.declares ⟨owner, x.name, x.desc⟩).before a0 Z = true) (w5 : (Cond.selects K x z).before a0 Z = true) (w6 : (Cond.instanceMethod z).before a0 Z = true) (w3 : (Cond.initialized z.cls).before a0 Z = true) (w4 : (Cond.code z bz mz rz).before a0 Z = true)
    (hz : owner ≠ "java/lang/invoke/MethodHandle" ∧ owner ≠ "java/lang/invoke/VarHandle") (E : Exa Z h a K) (M : MetL l Z n0 z bz mz rz rm (.ref a :: asL).toArray lt h Qz) {w : Nat} (hf : rm.frames + 1 ≤ R.frames) (hl : w + (mz + 11) + rm.locals ≤ R.locals)
    {ps : List FieldType} {r : Option FieldType} (hlen : parseMethodDescriptor x.desc = some ⟨ps, r⟩) (hps : asL.length = ps.length) {pc : Nat} {Ls : Array Slot} {st rest : List Value} (hls : Ls.size = maxL) (hst : st = asL.reverse ++ .ref a :: rest) (hw : (rest.map fun v => v.category).sum ≤ w)
    (hc : k + rm.cells ≤ R.cells) (hs : n + rm.slots ≤ R.slots) (hd : decode bytes pc = .ok (.invokevirtual index, 3))
    (H : ∀ v h' lt', Qz v h' lt' → Wl p l e R s m args below meth c n0 Q lt' h' (k + rm.cells) (n + rm.slots) (mkF m (pc + 3) Ls (v.toList ++ rest))) : Wl p l e R s m args below meth c n0 Q lt h k n (mkF m pc Ls st) := by
  intro T L vm0 X B eT N Lz
  subst hst
  have hZ := C.wZ B
  have ho := C.wo B
  have hw' : 2 * (mkF m pc Ls (asL.reverse ++ .ref a :: rest)).monitorRoom + (rest.map fun v => v.category).sum ≤ w := by show 2 * 0 + _ ≤ _; omega
  obtain ⟨cq, kq, qa, qb, qc⟩ := isOf hZ eT E
  obtain ⟨v, vm₁, ⟨T', L', k', n'⟩, -, X', hS', hgr, ⟨Lc, lt', hQ, hL, l1, y1, z1⟩, st⟩ := X.virtualBackUpS C.hx (x := x) (y := z) ho (mvT hZ w1) (mvT hZ w7) (mvT hZ w2) hz (mvT hZ w5) (mvT hZ w6) (backL (W := w) M hZ Lz w4 w3 hf hl) qa qc (g := mkF m pc Ls (asL.reverse ++ .ref a :: rest)) rfl (hls.trans C.hml.symm) (Steps.refl _) (argsL := asL) (rest := rest) (lenOf hlen hps) rfl hw' (hb C.hby hd) (fun _ _ => ⟨rfl, eT, hc, hs⟩)
  dsimp only [Pt.U, Pt.locs, Pt.cells, Pt.slots] at X' hS' hgr l1 y1 z1 st hQ hL
  subst l1 y1 z1
  obtain ⟨k0, hS, hk0⟩ := (B : ∃ k0, s.Since vm0 k0 ∧ k0 ≤ h.size)
  obtain ⟨s₂, o, h1, h2⟩ := H v T'.heap lt' hQ.1 T' _ T'.vm X' ⟨_, foldS hS (by rw [eT]; exact hk0) hS' hgr, Nat.le_refl _⟩ rfl (N.app hQ.2) (hL.of_vm rfl)
  exact ⟨s₂, o, st.trans h1, h2⟩
theorem Wl.ldcS (C : Cx Z p s m meth c y bytes maxL ret) {index : Nat} {text : String} (w : (Cond.stringLink y.cls index text).before a0 Z = true) (wS : ∀ d ∈ Bundle.stringAtoms, d.before a0 Z = true) {N : Nat} (hn : 4 * text.toList.length ≤ N) (hbig : N ≤ 536870912) {pc : Nat} {Ls : Array Slot} {st : List Value} (hd : decode bytes pc = .ok (.ldc index, 2)) (hc : k + 2 ≤ R.cells) (hl : n + (N + 4) ≤ R.slots)
    (H : ∀ h' a, Ext h h' → Wl p l e R s m args below meth c n0 Q (some (y.cls, index, a)) h' (k + 2) (n + (N + 4)) (mkF m (pc + 2) Ls (.ref a :: st))) : Wl p l e R s m args below meth c n0 Q lt h k n (mkF m pc Ls st) := by
  intro T L vm0 X B eT N' Lz
  have hZ := C.wZ B
  have ho := C.wo B
  obtain ⟨k0, hS, hk0⟩ := (B : ∃ k0, s.Since vm0 k0 ∧ k0 ≤ h.size)
  obtain ⟨a, T', X', hS', ⟨kk, hkk, hrr⟩, hbb, -, st⟩ := X.ldcStringCold C.hx (own := y.cls) ho (mvS hZ w) (fun d hd => by
    have q := wS d hd
    simp only [Bundle.stringAtoms, List.mem_cons, List.not_mem_nil, or_false] at hd
    rcases hd with rfl | rfl | rfl | rfl | rfl | rfl | rfl
    · exact mv hZ q
    · exact mv hZ q
    · exact mvA hZ q
    · exact mv hZ q
    · exact mv hZ q
    · exact mv hZ q
    · exact mv hZ q) (g := mkF m pc Ls st) rfl (hb C.hby hd) hn hbig hc hl
  subst eT
  have E := ext_of hbb
  have hf : T'.vm.findClass y.cls = some m.cls := by rw [hS'.1.alike.findClass]; exact ho
  have hL : Lit (s.setVm T'.vm) y.cls index a := by
    simp [Lit, State.resolvedAt?, hf, hkk, hrr]
  obtain ⟨s₂, o, h1, h2⟩ := H T'.heap a E T' L T'.vm X' ⟨_, hS.trans hS' (Nat.le_trans hk0 E.1), Nat.le_refl _⟩ rfl N' hL
  exact ⟨s₂, o, st _ h1, h2⟩
theorem Wl.ldcA (C : Cx Z p s m meth c y bytes maxL ret) {index : Nat} {text : String} (w : (Cond.stringLink y.cls index text).before a0 Z = true) {a : Addr} {pc : Nat} {Ls : Array Slot} {st : List Value} (hd : decode bytes pc = .ok (.ldc index, 2))
    (H : Wl p l e R s m args below meth c n0 Q (some (y.cls, index, a)) h k n (mkF m (pc + 2) Ls (.ref a :: st))) : Wl p l e R s m args below meth c n0 Q (some (y.cls, index, a)) h k n (mkF m pc Ls st) := by
  intro T L vm0 X B eT N Lz
  obtain ⟨s₂, o, h1, h2⟩ := H T L vm0 X B eT N Lz
  exact ⟨s₂, o, ldcAgain X C.hx (C.wZ B) (C.wo B) w (Lz : Lit (s.setVm vm0) y.cls index a) (g := mkF m pc Ls st) rfl (hb C.hby hd) _ h1, h2⟩
end Rules
end Jvm.Own
namespace Jvm.Pilot.@@N@@
open Jvm Jvm.ClassFile Sem Op Lib Jvm.Free Jvm.Stand Jvm.LawKit Jvm.RoadKit Bundle Jvm.Own Jvm.Pilot.@@N@@.Jvm.D
theorem pn_0 : plainName "com/example/escrow/escrow/TransactionStateIsEndedPinLaw" = true := by first | (simp [plainName, overriddenIn]; done) | decide +kernel
theorem pn_1 : plainName "com/example/escrow/escrow/TransactionState" = true := by first | (simp [plainName, overriddenIn]; done) | decide +kernel
theorem pn_2 : plainName "java/util/Objects" = true := by first | (simp [plainName, overriddenIn]; done) | decide +kernel
theorem pn_3 : plainName "java/lang/Enum" = true := by first | (simp [plainName, overriddenIn]; done) | decide +kernel
theorem pd_0 : parseMethodDescriptor "(I)Lcom/example/escrow/escrow/TransactionState;" = some ⟨[.int], some (.object "com/example/escrow/escrow/TransactionState")⟩ := by decide +kernel
theorem pd_1 : parseMethodDescriptor "()Z" = some ⟨[], some .boolean⟩ := by decide +kernel
theorem pd_2 : parseMethodDescriptor "(Lcom/example/escrow/escrow/TransactionState;)Z" = some ⟨[(.object "com/example/escrow/escrow/TransactionState")], some .boolean⟩ := by decide +kernel
theorem pd_3 : parseMethodDescriptor "(Ljava/lang/Object;Ljava/lang/String;)Ljava/lang/Object;" = some ⟨[(.object "java/lang/Object"), (.object "java/lang/String")], some (.object "java/lang/Object")⟩ := by decide +kernel
theorem pd_4 : parseMethodDescriptor "()I" = some ⟨[], some .int⟩ := by decide +kernel
def Enm (Z : State) (h : Heap) (s_CREATED s_PENDING s_COMMITTED s_FINISHED s_TERMINATING s_ROLLED_BACK : Addr) : Prop := Sta Z h "com/example/escrow/escrow/TransactionState" "CREATED" "Lcom/example/escrow/escrow/TransactionState;" (.ref s_CREATED) ∧ Exa Z h s_CREATED "com/example/escrow/escrow/TransactionState" ∧ Fld Z h s_CREATED "java/lang/Enum" "ordinal" "I" (.int (0 : Int32)) ∧ Sta Z h "com/example/escrow/escrow/TransactionState" "PENDING" "Lcom/example/escrow/escrow/TransactionState;" (.ref s_PENDING) ∧ Exa Z h s_PENDING "com/example/escrow/escrow/TransactionState" ∧ Fld Z h s_PENDING "java/lang/Enum" "ordinal" "I" (.int (1 : Int32)) ∧ Sta Z h "com/example/escrow/escrow/TransactionState" "COMMITTED" "Lcom/example/escrow/escrow/TransactionState;" (.ref s_COMMITTED) ∧ Exa Z h s_COMMITTED "com/example/escrow/escrow/TransactionState" ∧ Fld Z h s_COMMITTED "java/lang/Enum" "ordinal" "I" (.int (2 : Int32)) ∧ Sta Z h "com/example/escrow/escrow/TransactionState" "FINISHED" "Lcom/example/escrow/escrow/TransactionState;" (.ref s_FINISHED) ∧ Exa Z h s_FINISHED "com/example/escrow/escrow/TransactionState" ∧ Fld Z h s_FINISHED "java/lang/Enum" "ordinal" "I" (.int (3 : Int32)) ∧ Sta Z h "com/example/escrow/escrow/TransactionState" "TERMINATING" "Lcom/example/escrow/escrow/TransactionState;" (.ref s_TERMINATING) ∧ Exa Z h s_TERMINATING "com/example/escrow/escrow/TransactionState" ∧ Fld Z h s_TERMINATING "java/lang/Enum" "ordinal" "I" (.int (4 : Int32)) ∧ Sta Z h "com/example/escrow/escrow/TransactionState" "ROLLED_BACK" "Lcom/example/escrow/escrow/TransactionState;" (.ref s_ROLLED_BACK) ∧ Exa Z h s_ROLLED_BACK "com/example/escrow/escrow/TransactionState" ∧ Fld Z h s_ROLLED_BACK "java/lang/Enum" "ordinal" "I" (.int (5 : Int32))
theorem en_S_CREATED {Z : State} {h : Heap} {s_CREATED s_PENDING s_COMMITTED s_FINISHED s_TERMINATING s_ROLLED_BACK : Addr} (H : Enm Z h s_CREATED s_PENDING s_COMMITTED s_FINISHED s_TERMINATING s_ROLLED_BACK) : Sta Z h "com/example/escrow/escrow/TransactionState" "CREATED" "Lcom/example/escrow/escrow/TransactionState;" (.ref s_CREATED) := H.1
theorem en_E_CREATED {Z : State} {h : Heap} {s_CREATED s_PENDING s_COMMITTED s_FINISHED s_TERMINATING s_ROLLED_BACK : Addr} (H : Enm Z h s_CREATED s_PENDING s_COMMITTED s_FINISHED s_TERMINATING s_ROLLED_BACK) : Exa Z h s_CREATED "com/example/escrow/escrow/TransactionState" := H.2.1
theorem en_O_CREATED_ordinal {Z : State} {h : Heap} {s_CREATED s_PENDING s_COMMITTED s_FINISHED s_TERMINATING s_ROLLED_BACK : Addr} (H : Enm Z h s_CREATED s_PENDING s_COMMITTED s_FINISHED s_TERMINATING s_ROLLED_BACK) : Fld Z h s_CREATED "java/lang/Enum" "ordinal" "I" (.int (0 : Int32)) := H.2.2.1
theorem en_S_PENDING {Z : State} {h : Heap} {s_CREATED s_PENDING s_COMMITTED s_FINISHED s_TERMINATING s_ROLLED_BACK : Addr} (H : Enm Z h s_CREATED s_PENDING s_COMMITTED s_FINISHED s_TERMINATING s_ROLLED_BACK) : Sta Z h "com/example/escrow/escrow/TransactionState" "PENDING" "Lcom/example/escrow/escrow/TransactionState;" (.ref s_PENDING) := H.2.2.2.1
theorem en_E_PENDING {Z : State} {h : Heap} {s_CREATED s_PENDING s_COMMITTED s_FINISHED s_TERMINATING s_ROLLED_BACK : Addr} (H : Enm Z h s_CREATED s_PENDING s_COMMITTED s_FINISHED s_TERMINATING s_ROLLED_BACK) : Exa Z h s_PENDING "com/example/escrow/escrow/TransactionState" := H.2.2.2.2.1
theorem en_O_PENDING_ordinal {Z : State} {h : Heap} {s_CREATED s_PENDING s_COMMITTED s_FINISHED s_TERMINATING s_ROLLED_BACK : Addr} (H : Enm Z h s_CREATED s_PENDING s_COMMITTED s_FINISHED s_TERMINATING s_ROLLED_BACK) : Fld Z h s_PENDING "java/lang/Enum" "ordinal" "I" (.int (1 : Int32)) := H.2.2.2.2.2.1
theorem en_S_COMMITTED {Z : State} {h : Heap} {s_CREATED s_PENDING s_COMMITTED s_FINISHED s_TERMINATING s_ROLLED_BACK : Addr} (H : Enm Z h s_CREATED s_PENDING s_COMMITTED s_FINISHED s_TERMINATING s_ROLLED_BACK) : Sta Z h "com/example/escrow/escrow/TransactionState" "COMMITTED" "Lcom/example/escrow/escrow/TransactionState;" (.ref s_COMMITTED) := H.2.2.2.2.2.2.1
theorem en_E_COMMITTED {Z : State} {h : Heap} {s_CREATED s_PENDING s_COMMITTED s_FINISHED s_TERMINATING s_ROLLED_BACK : Addr} (H : Enm Z h s_CREATED s_PENDING s_COMMITTED s_FINISHED s_TERMINATING s_ROLLED_BACK) : Exa Z h s_COMMITTED "com/example/escrow/escrow/TransactionState" := H.2.2.2.2.2.2.2.1
theorem en_O_COMMITTED_ordinal {Z : State} {h : Heap} {s_CREATED s_PENDING s_COMMITTED s_FINISHED s_TERMINATING s_ROLLED_BACK : Addr} (H : Enm Z h s_CREATED s_PENDING s_COMMITTED s_FINISHED s_TERMINATING s_ROLLED_BACK) : Fld Z h s_COMMITTED "java/lang/Enum" "ordinal" "I" (.int (2 : Int32)) := H.2.2.2.2.2.2.2.2.1
theorem en_S_FINISHED {Z : State} {h : Heap} {s_CREATED s_PENDING s_COMMITTED s_FINISHED s_TERMINATING s_ROLLED_BACK : Addr} (H : Enm Z h s_CREATED s_PENDING s_COMMITTED s_FINISHED s_TERMINATING s_ROLLED_BACK) : Sta Z h "com/example/escrow/escrow/TransactionState" "FINISHED" "Lcom/example/escrow/escrow/TransactionState;" (.ref s_FINISHED) := H.2.2.2.2.2.2.2.2.2.1
theorem en_E_FINISHED {Z : State} {h : Heap} {s_CREATED s_PENDING s_COMMITTED s_FINISHED s_TERMINATING s_ROLLED_BACK : Addr} (H : Enm Z h s_CREATED s_PENDING s_COMMITTED s_FINISHED s_TERMINATING s_ROLLED_BACK) : Exa Z h s_FINISHED "com/example/escrow/escrow/TransactionState" := H.2.2.2.2.2.2.2.2.2.2.1
theorem en_O_FINISHED_ordinal {Z : State} {h : Heap} {s_CREATED s_PENDING s_COMMITTED s_FINISHED s_TERMINATING s_ROLLED_BACK : Addr} (H : Enm Z h s_CREATED s_PENDING s_COMMITTED s_FINISHED s_TERMINATING s_ROLLED_BACK) : Fld Z h s_FINISHED "java/lang/Enum" "ordinal" "I" (.int (3 : Int32)) := H.2.2.2.2.2.2.2.2.2.2.2.1
theorem en_S_TERMINATING {Z : State} {h : Heap} {s_CREATED s_PENDING s_COMMITTED s_FINISHED s_TERMINATING s_ROLLED_BACK : Addr} (H : Enm Z h s_CREATED s_PENDING s_COMMITTED s_FINISHED s_TERMINATING s_ROLLED_BACK) : Sta Z h "com/example/escrow/escrow/TransactionState" "TERMINATING" "Lcom/example/escrow/escrow/TransactionState;" (.ref s_TERMINATING) := H.2.2.2.2.2.2.2.2.2.2.2.2.1
theorem en_E_TERMINATING {Z : State} {h : Heap} {s_CREATED s_PENDING s_COMMITTED s_FINISHED s_TERMINATING s_ROLLED_BACK : Addr} (H : Enm Z h s_CREATED s_PENDING s_COMMITTED s_FINISHED s_TERMINATING s_ROLLED_BACK) : Exa Z h s_TERMINATING "com/example/escrow/escrow/TransactionState" := H.2.2.2.2.2.2.2.2.2.2.2.2.2.1
theorem en_O_TERMINATING_ordinal {Z : State} {h : Heap} {s_CREATED s_PENDING s_COMMITTED s_FINISHED s_TERMINATING s_ROLLED_BACK : Addr} (H : Enm Z h s_CREATED s_PENDING s_COMMITTED s_FINISHED s_TERMINATING s_ROLLED_BACK) : Fld Z h s_TERMINATING "java/lang/Enum" "ordinal" "I" (.int (4 : Int32)) := H.2.2.2.2.2.2.2.2.2.2.2.2.2.2.1
theorem en_S_ROLLED_BACK {Z : State} {h : Heap} {s_CREATED s_PENDING s_COMMITTED s_FINISHED s_TERMINATING s_ROLLED_BACK : Addr} (H : Enm Z h s_CREATED s_PENDING s_COMMITTED s_FINISHED s_TERMINATING s_ROLLED_BACK) : Sta Z h "com/example/escrow/escrow/TransactionState" "ROLLED_BACK" "Lcom/example/escrow/escrow/TransactionState;" (.ref s_ROLLED_BACK) := H.2.2.2.2.2.2.2.2.2.2.2.2.2.2.2.1
theorem en_E_ROLLED_BACK {Z : State} {h : Heap} {s_CREATED s_PENDING s_COMMITTED s_FINISHED s_TERMINATING s_ROLLED_BACK : Addr} (H : Enm Z h s_CREATED s_PENDING s_COMMITTED s_FINISHED s_TERMINATING s_ROLLED_BACK) : Exa Z h s_ROLLED_BACK "com/example/escrow/escrow/TransactionState" := H.2.2.2.2.2.2.2.2.2.2.2.2.2.2.2.2.1
theorem en_O_ROLLED_BACK_ordinal {Z : State} {h : Heap} {s_CREATED s_PENDING s_COMMITTED s_FINISHED s_TERMINATING s_ROLLED_BACK : Addr} (H : Enm Z h s_CREATED s_PENDING s_COMMITTED s_FINISHED s_TERMINATING s_ROLLED_BACK) : Fld Z h s_ROLLED_BACK "java/lang/Enum" "ordinal" "I" (.int (5 : Int32)) := H.2.2.2.2.2.2.2.2.2.2.2.2.2.2.2.2.2
theorem Enm.ext {h' : Heap} {Z : State} {h : Heap} {s_CREATED s_PENDING s_COMMITTED s_FINISHED s_TERMINATING s_ROLLED_BACK : Addr} (H : Enm Z h s_CREATED s_PENDING s_COMMITTED s_FINISHED s_TERMINATING s_ROLLED_BACK) (E : Ext h h') : Enm Z h' s_CREATED s_PENDING s_COMMITTED s_FINISHED s_TERMINATING s_ROLLED_BACK := ⟨(en_S_CREATED H).ext E, (en_E_CREATED H).ext E, (en_O_CREATED_ordinal H).ext E, (en_S_PENDING H).ext E, (en_E_PENDING H).ext E, (en_O_PENDING_ordinal H).ext E, (en_S_COMMITTED H).ext E, (en_E_COMMITTED H).ext E, (en_O_COMMITTED_ordinal H).ext E, (en_S_FINISHED H).ext E, (en_E_FINISHED H).ext E, (en_O_FINISHED_ordinal H).ext E, (en_S_TERMINATING H).ext E, (en_E_TERMINATING H).ext E, (en_O_TERMINATING_ordinal H).ext E, (en_S_ROLLED_BACK H).ext E, (en_E_ROLLED_BACK H).ext E, (en_O_ROLLED_BACK_ordinal H).ext E⟩
theorem Enm.wr {h0 h h' : Heap} {a : Addr} {sl : Nat} {v : Value} {Z : State} {s_CREATED s_PENDING s_COMMITTED s_FINISHED s_TERMINATING s_ROLLED_BACK : Addr} (H0 : Enm Z h0 s_CREATED s_PENDING s_COMMITTED s_FINISHED s_TERMINATING s_ROLLED_BACK) (q : h0.size ≤ a) (H : Enm Z h s_CREATED s_PENDING s_COMMITTED s_FINISHED s_TERMINATING s_ROLLED_BACK) (W : Wr h h' a sl v) : Enm Z h' s_CREATED s_PENDING s_COMMITTED s_FINISHED s_TERMINATING s_ROLLED_BACK := ⟨(en_S_CREATED H).wr W, (en_E_CREATED H).wr W, (en_O_CREATED_ordinal H).other W (Or.inl (Nat.ne_of_lt (Nat.lt_of_lt_of_le (en_E_CREATED H0).lt q))), (en_S_PENDING H).wr W, (en_E_PENDING H).wr W, (en_O_PENDING_ordinal H).other W (Or.inl (Nat.ne_of_lt (Nat.lt_of_lt_of_le (en_E_PENDING H0).lt q))), (en_S_COMMITTED H).wr W, (en_E_COMMITTED H).wr W, (en_O_COMMITTED_ordinal H).other W (Or.inl (Nat.ne_of_lt (Nat.lt_of_lt_of_le (en_E_COMMITTED H0).lt q))), (en_S_FINISHED H).wr W, (en_E_FINISHED H).wr W, (en_O_FINISHED_ordinal H).other W (Or.inl (Nat.ne_of_lt (Nat.lt_of_lt_of_le (en_E_FINISHED H0).lt q))), (en_S_TERMINATING H).wr W, (en_E_TERMINATING H).wr W, (en_O_TERMINATING_ordinal H).other W (Or.inl (Nat.ne_of_lt (Nat.lt_of_lt_of_le (en_E_TERMINATING H0).lt q))), (en_S_ROLLED_BACK H).wr W, (en_E_ROLLED_BACK H).wr W, (en_O_ROLLED_BACK_ordinal H).other W (Or.inl (Nat.ne_of_lt (Nat.lt_of_lt_of_le (en_E_ROLLED_BACK H0).lt q)))⟩
theorem own_wS {a0 : Array Value} {Z : State} (hw : ∀ d ∈ tables_1, d.before a0 Z = true) : ∀ d ∈ Bundle.stringAtoms, d.before a0 Z = true := by
  intro d hd
  simp only [Bundle.stringAtoms, List.mem_cons, List.not_mem_nil, or_false] at hd
  rcases hd with rfl | rfl | rfl | rfl | rfl | rfl | rfl
  · exact (hw _ (List.mem_of_getElem? (i := 23) rfl))
  · exact (hw _ (List.mem_of_getElem? (i := 24) rfl))
  · exact (hw _ (List.mem_of_getElem? (i := 25) rfl))
  · exact (hw _ (List.mem_of_getElem? (i := 26) rfl))
  · exact (hw _ (List.mem_of_getElem? (i := 27) rfl))
  · exact (hw _ (List.mem_of_getElem? (i := 28) rfl))
  · exact (hw _ (List.mem_of_getElem? (i := 29) rfl))
theorem d1_0 : decode method_2_code 0 = .ok (.iload_n 0, 1) := by decide +kernel
theorem d1_1 : decode method_2_code 1 = .ok (.ifCond .ne 7, 3) := by decide +kernel
theorem d1_4 : decode method_2_code 4 = .ok (.getstatic 7, 3) := by decide +kernel
theorem d1_7 : decode method_2_code 7 = .ok (.areturn, 1) := by decide +kernel
theorem d1_8 : decode method_2_code 8 = .ok (.iload_n 0, 1) := by decide +kernel
theorem d1_9 : decode method_2_code 9 = .ok (.iconst 1, 1) := by decide +kernel
theorem d1_10 : decode method_2_code 10 = .ok (.if_icmp .ne 7, 3) := by decide +kernel
theorem d1_13 : decode method_2_code 13 = .ok (.getstatic 13, 3) := by decide +kernel
theorem d1_16 : decode method_2_code 16 = .ok (.areturn, 1) := by decide +kernel
theorem d1_17 : decode method_2_code 17 = .ok (.iload_n 0, 1) := by decide +kernel
theorem d1_18 : decode method_2_code 18 = .ok (.iconst 2, 1) := by decide +kernel
theorem d1_19 : decode method_2_code 19 = .ok (.if_icmp .ne 7, 3) := by decide +kernel
theorem d1_22 : decode method_2_code 22 = .ok (.getstatic 16, 3) := by decide +kernel
theorem d1_25 : decode method_2_code 25 = .ok (.areturn, 1) := by decide +kernel
theorem d1_26 : decode method_2_code 26 = .ok (.iload_n 0, 1) := by decide +kernel
theorem d1_27 : decode method_2_code 27 = .ok (.iconst 3, 1) := by decide +kernel
theorem d1_28 : decode method_2_code 28 = .ok (.if_icmp .ne 7, 3) := by decide +kernel
theorem d1_31 : decode method_2_code 31 = .ok (.getstatic 19, 3) := by decide +kernel
theorem d1_34 : decode method_2_code 34 = .ok (.areturn, 1) := by decide +kernel
theorem d1_35 : decode method_2_code 35 = .ok (.iload_n 0, 1) := by decide +kernel
theorem d1_36 : decode method_2_code 36 = .ok (.iconst 4, 1) := by decide +kernel
theorem d1_37 : decode method_2_code 37 = .ok (.if_icmp .ne 7, 3) := by decide +kernel
theorem d1_40 : decode method_2_code 40 = .ok (.getstatic 22, 3) := by decide +kernel
theorem d1_43 : decode method_2_code 43 = .ok (.areturn, 1) := by decide +kernel
theorem d1_44 : decode method_2_code 44 = .ok (.getstatic 25, 3) := by decide +kernel
theorem d1_47 : decode method_2_code 47 = .ok (.areturn, 1) := by decide +kernel
set_option maxRecDepth 65536 in
set_option maxHeartbeats 40000000 in
theorem own_m1_0 (l : Launch) (Z : State) (a0 : Array Value) (hw : ∀ d ∈ tables_1, d.before a0 Z = true) (n0 : Nat) (h0 : Heap) (s_CREATED s_PENDING s_COMMITTED s_FINISHED s_TERMINATING s_ROLLED_BACK : Addr) (EN : Enm Z h0 s_CREATED s_PENDING s_COMMITTED s_FINISHED s_TERMINATING s_ROLLED_BACK) :
    Met true l Z n0 (⟨"com/example/escrow/escrow/TransactionStateIsEndedPinLaw", "pick", "(I)Lcom/example/escrow/escrow/TransactionState;"⟩ : MethodName) method_2_code 1 (some (.object "com/example/escrow/escrow/TransactionState")) ({ frames := 0, cells := 0, slots := 0, locals := 0 } : Room) #[(.int (0 : Int32))] h0 (fun v h => v = some (.ref s_CREATED) ∧ h0 = h) := by
  refine Met.of pn_0 #[.val (.int (0 : Int32))] (fun m => by first | (simp [entryFrame, mkF, argsToLocals, Value.category]; done) | rfl) ?_
  intro p e s m below meth c C
  refine Wk.st (g' := (mkF m 1 #[.val (.int (0 : Int32))] [(.int (0 : Int32))])) (fun X t q => XS.iloadN X.here C.hx rfl (hb C.hby d1_0) rfl q) ?_
  refine Wk.st (g' := (mkF m 4 #[.val (.int (0 : Int32))] [])) (fun X t q => XS.ifNo X.here C.hx rfl (hb C.hby d1_1) rfl (XT.i0_ne_f (by decide)) q) ?_
  refine Wk.getS C (hw _ (List.mem_of_getElem? (i := 5) rfl)) (en_S_CREATED EN) d1_4 ?_
  show Wk _ p l e _ s m _ below meth c n0 _ h0 0 0 (mkF m 7 #[.val (.int (0 : Int32))] [(.ref s_CREATED)])
  exact Wk.retV C (t := (.object "com/example/escrow/escrow/TransactionState")) rfl rfl (Or.inr (Or.inr (Or.inr (Or.inr ⟨rfl, rfl, rfl⟩)))) d1_7 (by decide) (by decide) ⟨rfl, rfl⟩
theorem d2_0 : decode prog_34_method_6_code 0 = .ok (.aload_n 0, 1) := by decide +kernel
theorem d2_1 : decode prog_34_method_6_code 1 = .ok (.getstatic 13, 3) := by decide +kernel
theorem d2_4 : decode prog_34_method_6_code 4 = .ok (.if_acmp .eq 10, 3) := by decide +kernel
theorem d2_7 : decode prog_34_method_6_code 7 = .ok (.aload_n 0, 1) := by decide +kernel
theorem d2_8 : decode prog_34_method_6_code 8 = .ok (.getstatic 19, 3) := by decide +kernel
theorem d2_11 : decode prog_34_method_6_code 11 = .ok (.if_acmp .ne 7, 3) := by decide +kernel
theorem d2_14 : decode prog_34_method_6_code 14 = .ok (.iconst 1, 1) := by decide +kernel
theorem d2_15 : decode prog_34_method_6_code 15 = .ok (.goto 4, 3) := by decide +kernel
theorem d2_18 : decode prog_34_method_6_code 18 = .ok (.iconst 0, 1) := by decide +kernel
theorem d2_19 : decode prog_34_method_6_code 19 = .ok (.ireturn, 1) := by decide +kernel
set_option maxRecDepth 65536 in
set_option maxHeartbeats 40000000 in
theorem own_m2_1 (l : Launch) (Z : State) (a0 : Array Value) (hw : ∀ d ∈ tables_1, d.before a0 Z = true) (n0 : Nat) (h0 : Heap) (s_CREATED s_PENDING s_COMMITTED s_FINISHED s_TERMINATING s_ROLLED_BACK : Addr) (EN : Enm Z h0 s_CREATED s_PENDING s_COMMITTED s_FINISHED s_TERMINATING s_ROLLED_BACK) :
    Met true l Z n0 (⟨"com/example/escrow/escrow/TransactionState", "isEnded", "()Z"⟩ : MethodName) prog_34_method_6_code 1 (some .boolean) ({ frames := 0, cells := 0, slots := 0, locals := 0 } : Room) #[(.ref s_CREATED)] h0 (fun v h => v = some (.int (0 : Int32)) ∧ h0 = h) := by
  refine Met.of pn_1 #[.val (.ref s_CREATED)] (fun m => by first | (simp [entryFrame, mkF, argsToLocals, Value.category]; done) | rfl) ?_
  intro p e s m below meth c C
  refine Wk.st (g' := (mkF m 1 #[.val (.ref s_CREATED)] [(.ref s_CREATED)])) (fun X t q => XS.aloadN X.here C.hx rfl (hb C.hby d2_0) rfl rfl q) ?_
  refine Wk.getS C (hw _ (List.mem_of_getElem? (i := 13) rfl)) (en_S_FINISHED EN) d2_1 ?_
  show Wk _ p l e _ s m _ below meth c n0 _ h0 0 0 (mkF m 4 #[.val (.ref s_CREATED)] [(.ref s_FINISHED), (.ref s_CREATED)])
  refine Wk.st (g' := (mkF m 7 #[.val (.ref s_CREATED)] [])) (fun X t q => Jvm.RoadKit.acmp (g := (mkF m 4 #[.val (.ref s_CREATED)] [(.ref s_FINISHED), (.ref s_CREATED)])) X C.hx rfl rfl rfl (pc0 := 4) (pc' := 7) (same := false) rfl (hb C.hby d2_4) rfl (decide_eq_false fun q => (ne_fld (en_O_CREATED_ordinal EN) (en_O_FINISHED_ordinal EN) (by decide)) (Value.ref.inj q)) (by decide) (by decide) q) ?_
  refine Wk.st (g' := (mkF m 8 #[.val (.ref s_CREATED)] [(.ref s_CREATED)])) (fun X t q => XS.aloadN X.here C.hx rfl (hb C.hby d2_7) rfl rfl q) ?_
  refine Wk.getS C (hw _ (List.mem_of_getElem? (i := 15) rfl)) (en_S_ROLLED_BACK EN) d2_8 ?_
  show Wk _ p l e _ s m _ below meth c n0 _ h0 0 0 (mkF m 11 #[.val (.ref s_CREATED)] [(.ref s_ROLLED_BACK), (.ref s_CREATED)])
  refine Wk.st (g' := (mkF m 18 #[.val (.ref s_CREATED)] [])) (fun X t q => Jvm.RoadKit.acmp (g := (mkF m 11 #[.val (.ref s_CREATED)] [(.ref s_ROLLED_BACK), (.ref s_CREATED)])) X C.hx rfl rfl rfl (pc0 := 11) (pc' := 18) (same := false) rfl (hb C.hby d2_11) rfl (decide_eq_false fun q => (ne_fld (en_O_CREATED_ordinal EN) (en_O_ROLLED_BACK_ordinal EN) (by decide)) (Value.ref.inj q)) (by decide) (by decide) q) ?_
  refine Wk.st (g' := (mkF m 19 #[.val (.ref s_CREATED)] [(.int (0 : Int32))])) (fun X t q => XS.iconst X.here C.hx rfl (hb C.hby d2_18) q) ?_
  exact Wk.retV C (t := .boolean) rfl rfl (Or.inl ⟨rfl, by simp, _, rfl⟩) d2_19 (by decide) (by decide) ⟨rfl, rfl⟩
theorem d4_0 : decode jdk_31_method_11_code 0 = .ok (.aload_n 0, 1) := by decide +kernel
theorem d4_1 : decode jdk_31_method_11_code 1 = .ok (.ifnonnull 12, 3) := by decide +kernel
theorem d4_4 : decode jdk_31_method_11_code 4 = .ok (.new 84, 3) := by decide +kernel
theorem d4_7 : decode jdk_31_method_11_code 7 = .ok (.dup, 1) := by decide +kernel
theorem d4_8 : decode jdk_31_method_11_code 8 = .ok (.aload_n 1, 1) := by decide +kernel
theorem d4_9 : decode jdk_31_method_11_code 9 = .ok (.invokespecial 87, 3) := by decide +kernel
theorem d4_12 : decode jdk_31_method_11_code 12 = .ok (.athrow, 1) := by decide +kernel
theorem d4_13 : decode jdk_31_method_11_code 13 = .ok (.aload_n 0, 1) := by decide +kernel
theorem d4_14 : decode jdk_31_method_11_code 14 = .ok (.areturn, 1) := by decide +kernel
set_option maxRecDepth 65536 in
set_option maxHeartbeats 40000000 in
theorem own_m4_2 (l : Launch) (Z : State) (a0 : Array Value) (hw : ∀ d ∈ tables_1, d.before a0 Z = true) (n0 : Nat) (h0 : Heap) (s_CREATED s_PENDING s_COMMITTED s_FINISHED s_TERMINATING s_ROLLED_BACK : Addr) (EN : Enm Z h0 s_CREATED s_PENDING s_COMMITTED s_FINISHED s_TERMINATING s_ROLLED_BACK) (z0 : Addr) :
    Met true l Z n0 (⟨"java/util/Objects", "requireNonNull", "(Ljava/lang/Object;Ljava/lang/String;)Ljava/lang/Object;"⟩ : MethodName) jdk_31_method_11_code 2 (some (.object "java/lang/Object")) ({ frames := 0, cells := 0, slots := 0, locals := 0 } : Room) #[(.ref s_CREATED), (.ref z0)] h0 (fun v h => v = some (.ref s_CREATED) ∧ h0 = h) := by
  refine Met.of pn_2 #[.val (.ref s_CREATED), .val (.ref z0)] (fun m => by first | (simp [entryFrame, mkF, argsToLocals, Value.category]; done) | rfl) ?_
  intro p e s m below meth c C
  refine Wk.st (g' := (mkF m 1 #[.val (.ref s_CREATED), .val (.ref z0)] [(.ref s_CREATED)])) (fun X t q => XS.aloadN X.here C.hx rfl (hb C.hby d4_0) rfl rfl q) ?_
  refine Wk.st (g' := (mkF m 13 #[.val (.ref s_CREATED), .val (.ref z0)] [])) (fun X t q => XS.ifnonnullYes X.here C.hx rfl (pc0 := 1) (pc' := 13) rfl (hb C.hby d4_1) rfl (by decide) (by decide) q) ?_
  refine Wk.st (g' := (mkF m 14 #[.val (.ref s_CREATED), .val (.ref z0)] [(.ref s_CREATED)])) (fun X t q => XS.aloadN X.here C.hx rfl (hb C.hby d4_13) rfl rfl q) ?_
  exact Wk.retV C (t := (.object "java/lang/Object")) rfl rfl (Or.inr (Or.inr (Or.inr (Or.inr ⟨rfl, rfl, rfl⟩)))) d4_14 (by decide) (by decide) ⟨rfl, rfl⟩
theorem d5_0 : decode jdk_37_method_2_code 0 = .ok (.aload_n 0, 1) := by decide +kernel
theorem d5_1 : decode jdk_37_method_2_code 1 = .ok (.getfield 7, 3) := by decide +kernel
theorem d5_4 : decode jdk_37_method_2_code 4 = .ok (.ireturn, 1) := by decide +kernel
set_option maxRecDepth 65536 in
set_option maxHeartbeats 40000000 in
theorem own_m5_3 (l : Launch) (Z : State) (a0 : Array Value) (hw : ∀ d ∈ tables_1, d.before a0 Z = true) (n0 : Nat) (h0 : Heap) (s_CREATED s_PENDING s_COMMITTED s_FINISHED s_TERMINATING s_ROLLED_BACK : Addr) (EN : Enm Z h0 s_CREATED s_PENDING s_COMMITTED s_FINISHED s_TERMINATING s_ROLLED_BACK) :
    Met true l Z n0 (⟨"java/lang/Enum", "ordinal", "()I"⟩ : MethodName) jdk_37_method_2_code 1 (some .int) ({ frames := 0, cells := 0, slots := 0, locals := 0 } : Room) #[(.ref s_CREATED)] h0 (fun v h => v = some (.int (0 : Int32)) ∧ h0 = h) := by
  refine Met.of pn_3 #[.val (.ref s_CREATED)] (fun m => by first | (simp [entryFrame, mkF, argsToLocals, Value.category]; done) | rfl) ?_
  intro p e s m below meth c C
  refine Wk.st (g' := (mkF m 1 #[.val (.ref s_CREATED)] [(.ref s_CREATED)])) (fun X t q => XS.aloadN X.here C.hx rfl (hb C.hby d5_0) rfl rfl q) ?_
  refine Wk.getF C (hw _ (List.mem_of_getElem? (i := 41) rfl)) Via.refl (en_O_CREATED_ordinal EN) d5_1 ?_
  show Wk _ p l e _ s m _ below meth c n0 _ h0 0 0 (mkF m 4 #[.val (.ref s_CREATED)] [(.int (0 : Int32))])
  exact Wk.retV C (t := .int) rfl rfl (Or.inl ⟨rfl, by simp, _, rfl⟩) d5_4 (by decide) (by decide) ⟨rfl, rfl⟩
theorem d3_0 : decode prog_34_method_7_code 0 = .ok (.aload_n 1, 1) := by decide +kernel
theorem d3_1 : decode prog_34_method_7_code 1 = .ok (.ldc 57, 2) := by decide +kernel
theorem d3_3 : decode prog_34_method_7_code 3 = .ok (.invokestatic 59, 3) := by decide +kernel
theorem d3_6 : decode prog_34_method_7_code 6 = .ok (.pop, 1) := by decide +kernel
theorem d3_7 : decode prog_34_method_7_code 7 = .ok (.aload_n 0, 1) := by decide +kernel
theorem d3_8 : decode prog_34_method_7_code 8 = .ok (.invokevirtual 65, 3) := by decide +kernel
theorem d3_11 : decode prog_34_method_7_code 11 = .ok (.tableswitch 37 0 5 #[47, 69, 91, 121, 106, 121], 37) := by decide +kernel
theorem d3_48 : decode prog_34_method_7_code 48 = .ok (.new 69, 3) := by decide +kernel
theorem d3_51 : decode prog_34_method_7_code 51 = .ok (.dup, 1) := by decide +kernel
theorem d3_52 : decode prog_34_method_7_code 52 = .ok (.aconst_null, 1) := by decide +kernel
theorem d3_53 : decode prog_34_method_7_code 53 = .ok (.aconst_null, 1) := by decide +kernel
theorem d3_54 : decode prog_34_method_7_code 54 = .ok (.invokespecial 71, 3) := by decide +kernel
theorem d3_57 : decode prog_34_method_7_code 57 = .ok (.athrow, 1) := by decide +kernel
theorem d3_58 : decode prog_34_method_7_code 58 = .ok (.aload_n 1, 1) := by decide +kernel
theorem d3_59 : decode prog_34_method_7_code 59 = .ok (.getstatic 7, 3) := by decide +kernel
theorem d3_62 : decode prog_34_method_7_code 62 = .ok (.if_acmp .eq 10, 3) := by decide +kernel
theorem d3_65 : decode prog_34_method_7_code 65 = .ok (.aload_n 1, 1) := by decide +kernel
theorem d3_66 : decode prog_34_method_7_code 66 = .ok (.getstatic 16, 3) := by decide +kernel
theorem d3_69 : decode prog_34_method_7_code 69 = .ok (.if_acmp .ne 7, 3) := by decide +kernel
theorem d3_72 : decode prog_34_method_7_code 72 = .ok (.iconst 1, 1) := by decide +kernel
theorem d3_73 : decode prog_34_method_7_code 73 = .ok (.goto 60, 3) := by decide +kernel
theorem d3_76 : decode prog_34_method_7_code 76 = .ok (.iconst 0, 1) := by decide +kernel
theorem d3_77 : decode prog_34_method_7_code 77 = .ok (.goto 56, 3) := by decide +kernel
theorem d3_80 : decode prog_34_method_7_code 80 = .ok (.aload_n 1, 1) := by decide +kernel
theorem d3_81 : decode prog_34_method_7_code 81 = .ok (.getstatic 10, 3) := by decide +kernel
theorem d3_84 : decode prog_34_method_7_code 84 = .ok (.if_acmp .eq 10, 3) := by decide +kernel
theorem d3_87 : decode prog_34_method_7_code 87 = .ok (.aload_n 1, 1) := by decide +kernel
theorem d3_88 : decode prog_34_method_7_code 88 = .ok (.getstatic 16, 3) := by decide +kernel
theorem d3_91 : decode prog_34_method_7_code 91 = .ok (.if_acmp .ne 7, 3) := by decide +kernel
theorem d3_94 : decode prog_34_method_7_code 94 = .ok (.iconst 1, 1) := by decide +kernel
theorem d3_95 : decode prog_34_method_7_code 95 = .ok (.goto 38, 3) := by decide +kernel
theorem d3_98 : decode prog_34_method_7_code 98 = .ok (.iconst 0, 1) := by decide +kernel
theorem d3_99 : decode prog_34_method_7_code 99 = .ok (.goto 34, 3) := by decide +kernel
theorem d3_102 : decode prog_34_method_7_code 102 = .ok (.aload_n 1, 1) := by decide +kernel
theorem d3_103 : decode prog_34_method_7_code 103 = .ok (.getstatic 13, 3) := by decide +kernel
theorem d3_106 : decode prog_34_method_7_code 106 = .ok (.if_acmp .ne 7, 3) := by decide +kernel
theorem d3_109 : decode prog_34_method_7_code 109 = .ok (.iconst 1, 1) := by decide +kernel
theorem d3_110 : decode prog_34_method_7_code 110 = .ok (.goto 23, 3) := by decide +kernel
theorem d3_113 : decode prog_34_method_7_code 113 = .ok (.iconst 0, 1) := by decide +kernel
theorem d3_114 : decode prog_34_method_7_code 114 = .ok (.goto 19, 3) := by decide +kernel
theorem d3_117 : decode prog_34_method_7_code 117 = .ok (.aload_n 1, 1) := by decide +kernel
theorem d3_118 : decode prog_34_method_7_code 118 = .ok (.getstatic 19, 3) := by decide +kernel
theorem d3_121 : decode prog_34_method_7_code 121 = .ok (.if_acmp .ne 7, 3) := by decide +kernel
theorem d3_124 : decode prog_34_method_7_code 124 = .ok (.iconst 1, 1) := by decide +kernel
theorem d3_125 : decode prog_34_method_7_code 125 = .ok (.goto 8, 3) := by decide +kernel
theorem d3_128 : decode prog_34_method_7_code 128 = .ok (.iconst 0, 1) := by decide +kernel
theorem d3_129 : decode prog_34_method_7_code 129 = .ok (.goto 4, 3) := by decide +kernel
theorem d3_132 : decode prog_34_method_7_code 132 = .ok (.iconst 0, 1) := by decide +kernel
theorem d3_133 : decode prog_34_method_7_code 133 = .ok (.ireturn, 1) := by decide +kernel
set_option maxRecDepth 65536 in
set_option maxHeartbeats 40000000 in
theorem own_c2 (l : Launch) (Z : State) (a0 : Array Value) (hw : ∀ d ∈ tables_1, d.before a0 Z = true) (n0 : Nat) (h0 : Heap) (s_CREATED s_PENDING s_COMMITTED s_FINISHED s_TERMINATING s_ROLLED_BACK : Addr) (EN : Enm Z h0 s_CREATED s_PENDING s_COMMITTED s_FINISHED s_TERMINATING s_ROLLED_BACK) :
    MetL l Z n0 (⟨"com/example/escrow/escrow/TransactionState", "canMoveTo", "(Lcom/example/escrow/escrow/TransactionState;)Z"⟩ : MethodName) prog_34_method_7_code 2 (some .boolean) ({ frames := 1, cells := 2, slots := 20, locals := 13 } : Room) #[(.ref s_CREATED), (.ref s_CREATED)] none h0 (fun v h lt => v = some (.int (0 : Int32)) ∧ Ext h0 h ∧ ∃ a, lt = some ("com/example/escrow/escrow/TransactionState", 57, a)) := by
  refine MetL.of pn_1 #[.val (.ref s_CREATED), .val (.ref s_CREATED)] (fun m => by first | (simp [entryFrame, mkF, argsToLocals, Value.category]; done) | rfl) ?_
  intro p e s m below meth c C
  refine Wl.st (g' := (mkF m 1 #[.val (.ref s_CREATED), .val (.ref s_CREATED)] [(.ref s_CREATED)])) (fun X t q => XS.aloadN X.here C.hx rfl (hb C.hby d3_0) rfl rfl q) ?_
  refine Wl.ldcS C (hw _ (List.mem_of_getElem? (i := 22) rfl)) (own_wS hw) (N := 16) (by decide) (by decide) d3_1 (by decide) (by decide) ?_
  intro h1 a2 E3
  show Wl p l e _ s m _ below meth c n0 _ (some ("com/example/escrow/escrow/TransactionState", 57, a2)) h1 2 20 (mkF m 3 #[.val (.ref s_CREATED), .val (.ref s_CREATED)] [(.ref a2), (.ref s_CREATED)])
  refine Wl.callS C (z := (⟨"java/util/Objects", "requireNonNull", "(Ljava/lang/Object;Ljava/lang/String;)Ljava/lang/Object;"⟩ : MethodName)) (hw _ (List.mem_of_getElem? (i := 30) rfl)) (hw _ (List.mem_of_getElem? (i := 31) rfl)) (hw _ (List.mem_of_getElem? (i := 32) rfl)) (hw _ (List.mem_of_getElem? (i := 33) rfl)) (by decide) ((own_m4_2 l Z a0 hw n0 h1 s_CREATED s_PENDING s_COMMITTED s_FINISHED s_TERMINATING s_ROLLED_BACK (EN.ext E3) a2).toL (some ("com/example/escrow/escrow/TransactionState", 57, a2))) (w := 0) (by decide) (by decide) pd_3 rfl (rest := []) rfl rfl (Nat.le_of_eq rfl) (by decide) (by decide) d3_3 ?_
  rintro _ _ _ ⟨⟨rfl, rfl⟩, rfl⟩
  show Wl p l e _ s m _ below meth c n0 _ (some ("com/example/escrow/escrow/TransactionState", 57, a2)) h1 2 20 (mkF m 6 #[.val (.ref s_CREATED), .val (.ref s_CREATED)] [(.ref s_CREATED)])
  refine Wl.st (g' := (mkF m 7 #[.val (.ref s_CREATED), .val (.ref s_CREATED)] [])) (fun X t q => XS.pop X.here C.hx rfl (hb C.hby d3_6) rfl rfl q) ?_
  refine Wl.st (g' := (mkF m 8 #[.val (.ref s_CREATED), .val (.ref s_CREATED)] [(.ref s_CREATED)])) (fun X t q => XS.aloadN X.here C.hx rfl (hb C.hby d3_7) rfl rfl q) ?_
  refine Wl.callU C (x := (⟨"com/example/escrow/escrow/TransactionState", "ordinal", "()I"⟩ : MethodName)) (z := (⟨"java/lang/Enum", "ordinal", "()I"⟩ : MethodName)) (K := "com/example/escrow/escrow/TransactionState") (owner := "java/lang/Enum") (hw _ (List.mem_of_getElem? (i := 34) rfl)) (hw _ (List.mem_of_getElem? (i := 35) rfl)) (hw _ (List.mem_of_getElem? (i := 36) rfl)) (hw _ (List.mem_of_getElem? (i := 38) rfl)) (hw _ (List.mem_of_getElem? (i := 37) rfl)) (hw _ (List.mem_of_getElem? (i := 39) rfl)) (hw _ (List.mem_of_getElem? (i := 40) rfl)) (by decide) (en_E_CREATED (EN.ext E3)) ((own_m5_3 l Z a0 hw n0 h1 s_CREATED s_PENDING s_COMMITTED s_FINISHED s_TERMINATING s_ROLLED_BACK (EN.ext E3) ).toL (some ("com/example/escrow/escrow/TransactionState", 57, a2))) (w := 0) (by decide) (by decide) pd_4 rfl (rest := []) rfl rfl (Nat.le_of_eq rfl) (by decide) (by decide) d3_8 ?_
  rintro _ _ _ ⟨⟨rfl, rfl⟩, rfl⟩
  show Wl p l e _ s m _ below meth c n0 _ (some ("com/example/escrow/escrow/TransactionState", 57, a2)) h1 2 20 (mkF m 11 #[.val (.ref s_CREATED), .val (.ref s_CREATED)] [(.int (0 : Int32))])
  refine Wl.st (g' := (mkF m 58 #[.val (.ref s_CREATED), .val (.ref s_CREATED)] [])) (fun X t q => XS.tswIn X.here C.hx rfl (pc0 := 11) (pc' := 58) rfl (hb C.hby d3_11) rfl (by decide) (o := 47) rfl (by decide) (by decide) q) ?_
  refine Wl.st (g' := (mkF m 59 #[.val (.ref s_CREATED), .val (.ref s_CREATED)] [(.ref s_CREATED)])) (fun X t q => XS.aloadN X.here C.hx rfl (hb C.hby d3_58) rfl rfl q) ?_
  refine Wl.getS C (hw _ (List.mem_of_getElem? (i := 43) rfl)) (en_S_PENDING (EN.ext E3)) d3_59 ?_
  show Wl p l e _ s m _ below meth c n0 _ (some ("com/example/escrow/escrow/TransactionState", 57, a2)) h1 2 20 (mkF m 62 #[.val (.ref s_CREATED), .val (.ref s_CREATED)] [(.ref s_PENDING), (.ref s_CREATED)])
  refine Wl.st (g' := (mkF m 65 #[.val (.ref s_CREATED), .val (.ref s_CREATED)] [])) (fun X t q => Jvm.RoadKit.acmp (g := (mkF m 62 #[.val (.ref s_CREATED), .val (.ref s_CREATED)] [(.ref s_PENDING), (.ref s_CREATED)])) X C.hx rfl rfl rfl (pc0 := 62) (pc' := 65) (same := false) rfl (hb C.hby d3_62) rfl (decide_eq_false fun q => (ne_fld (en_O_CREATED_ordinal (EN.ext E3)) (en_O_PENDING_ordinal (EN.ext E3)) (by decide)) (Value.ref.inj q)) (by decide) (by decide) q) ?_
  refine Wl.st (g' := (mkF m 66 #[.val (.ref s_CREATED), .val (.ref s_CREATED)] [(.ref s_CREATED)])) (fun X t q => XS.aloadN X.here C.hx rfl (hb C.hby d3_65) rfl rfl q) ?_
  refine Wl.getS C (hw _ (List.mem_of_getElem? (i := 45) rfl)) (en_S_TERMINATING (EN.ext E3)) d3_66 ?_
  show Wl p l e _ s m _ below meth c n0 _ (some ("com/example/escrow/escrow/TransactionState", 57, a2)) h1 2 20 (mkF m 69 #[.val (.ref s_CREATED), .val (.ref s_CREATED)] [(.ref s_TERMINATING), (.ref s_CREATED)])
  refine Wl.st (g' := (mkF m 76 #[.val (.ref s_CREATED), .val (.ref s_CREATED)] [])) (fun X t q => Jvm.RoadKit.acmp (g := (mkF m 69 #[.val (.ref s_CREATED), .val (.ref s_CREATED)] [(.ref s_TERMINATING), (.ref s_CREATED)])) X C.hx rfl rfl rfl (pc0 := 69) (pc' := 76) (same := false) rfl (hb C.hby d3_69) rfl (decide_eq_false fun q => (ne_fld (en_O_CREATED_ordinal (EN.ext E3)) (en_O_TERMINATING_ordinal (EN.ext E3)) (by decide)) (Value.ref.inj q)) (by decide) (by decide) q) ?_
  refine Wl.st (g' := (mkF m 77 #[.val (.ref s_CREATED), .val (.ref s_CREATED)] [(.int (0 : Int32))])) (fun X t q => XS.iconst X.here C.hx rfl (hb C.hby d3_76) q) ?_
  refine Wl.st (g' := (mkF m 133 #[.val (.ref s_CREATED), .val (.ref s_CREATED)] [(.int (0 : Int32))])) (fun X t q => XS.goto X.here C.hx rfl (pc0 := 77) (pc' := 133) rfl (hb C.hby d3_77) (by decide) (by decide) q) ?_
  exact Wl.retV C (t := .boolean) rfl rfl (Or.inl ⟨rfl, by simp, _, rfl⟩) d3_133 (by decide) (by decide) ⟨rfl, E3, a2, rfl⟩
set_option maxRecDepth 65536 in
set_option maxHeartbeats 40000000 in
theorem own_m4_5 (l : Launch) (Z : State) (a0 : Array Value) (hw : ∀ d ∈ tables_1, d.before a0 Z = true) (n0 : Nat) (h0 : Heap) (s_CREATED s_PENDING s_COMMITTED s_FINISHED s_TERMINATING s_ROLLED_BACK : Addr) (EN : Enm Z h0 s_CREATED s_PENDING s_COMMITTED s_FINISHED s_TERMINATING s_ROLLED_BACK) (z0 : Addr) :
    Met true l Z n0 (⟨"java/util/Objects", "requireNonNull", "(Ljava/lang/Object;Ljava/lang/String;)Ljava/lang/Object;"⟩ : MethodName) jdk_31_method_11_code 2 (some (.object "java/lang/Object")) ({ frames := 0, cells := 0, slots := 0, locals := 0 } : Room) #[(.ref s_PENDING), (.ref z0)] h0 (fun v h => v = some (.ref s_PENDING) ∧ h0 = h) := by
  refine Met.of pn_2 #[.val (.ref s_PENDING), .val (.ref z0)] (fun m => by first | (simp [entryFrame, mkF, argsToLocals, Value.category]; done) | rfl) ?_
  intro p e s m below meth c C
  refine Wk.st (g' := (mkF m 1 #[.val (.ref s_PENDING), .val (.ref z0)] [(.ref s_PENDING)])) (fun X t q => XS.aloadN X.here C.hx rfl (hb C.hby d4_0) rfl rfl q) ?_
  refine Wk.st (g' := (mkF m 13 #[.val (.ref s_PENDING), .val (.ref z0)] [])) (fun X t q => XS.ifnonnullYes X.here C.hx rfl (pc0 := 1) (pc' := 13) rfl (hb C.hby d4_1) rfl (by decide) (by decide) q) ?_
  refine Wk.st (g' := (mkF m 14 #[.val (.ref s_PENDING), .val (.ref z0)] [(.ref s_PENDING)])) (fun X t q => XS.aloadN X.here C.hx rfl (hb C.hby d4_13) rfl rfl q) ?_
  exact Wk.retV C (t := (.object "java/lang/Object")) rfl rfl (Or.inr (Or.inr (Or.inr (Or.inr ⟨rfl, rfl, rfl⟩)))) d4_14 (by decide) (by decide) ⟨rfl, rfl⟩
set_option maxRecDepth 65536 in
set_option maxHeartbeats 40000000 in
theorem own_c5 (l : Launch) (Z : State) (a0 : Array Value) (hw : ∀ d ∈ tables_1, d.before a0 Z = true) (n0 : Nat) (h0 : Heap) (s_CREATED s_PENDING s_COMMITTED s_FINISHED s_TERMINATING s_ROLLED_BACK : Addr) (EN : Enm Z h0 s_CREATED s_PENDING s_COMMITTED s_FINISHED s_TERMINATING s_ROLLED_BACK) (z : Addr) :
    MetL l Z n0 (⟨"com/example/escrow/escrow/TransactionState", "canMoveTo", "(Lcom/example/escrow/escrow/TransactionState;)Z"⟩ : MethodName) prog_34_method_7_code 2 (some .boolean) ({ frames := 1, cells := 0, slots := 0, locals := 13 } : Room) #[(.ref s_CREATED), (.ref s_PENDING)] (some ("com/example/escrow/escrow/TransactionState", 57, z)) h0 (fun v h lt => v = some (.int (1 : Int32)) ∧ h0 = h ∧ lt = some ("com/example/escrow/escrow/TransactionState", 57, z)) := by
  refine MetL.of pn_1 #[.val (.ref s_CREATED), .val (.ref s_PENDING)] (fun m => by first | (simp [entryFrame, mkF, argsToLocals, Value.category]; done) | rfl) ?_
  intro p e s m below meth c C
  refine Wl.st (g' := (mkF m 1 #[.val (.ref s_CREATED), .val (.ref s_PENDING)] [(.ref s_PENDING)])) (fun X t q => XS.aloadN X.here C.hx rfl (hb C.hby d3_0) rfl rfl q) ?_
  refine Wl.ldcA C (hw _ (List.mem_of_getElem? (i := 22) rfl)) (a := z) d3_1 ?_
  show Wl p l e _ s m _ below meth c n0 _ (some ("com/example/escrow/escrow/TransactionState", 57, z)) h0 0 0 (mkF m 3 #[.val (.ref s_CREATED), .val (.ref s_PENDING)] [(.ref z), (.ref s_PENDING)])
  refine Wl.callS C (z := (⟨"java/util/Objects", "requireNonNull", "(Ljava/lang/Object;Ljava/lang/String;)Ljava/lang/Object;"⟩ : MethodName)) (hw _ (List.mem_of_getElem? (i := 30) rfl)) (hw _ (List.mem_of_getElem? (i := 31) rfl)) (hw _ (List.mem_of_getElem? (i := 32) rfl)) (hw _ (List.mem_of_getElem? (i := 33) rfl)) (by decide) ((own_m4_5 l Z a0 hw n0 h0 s_CREATED s_PENDING s_COMMITTED s_FINISHED s_TERMINATING s_ROLLED_BACK EN z).toL (some ("com/example/escrow/escrow/TransactionState", 57, z))) (w := 0) (by decide) (by decide) pd_3 rfl (rest := []) rfl rfl (Nat.le_of_eq rfl) (by decide) (by decide) d3_3 ?_
  rintro _ _ _ ⟨⟨rfl, rfl⟩, rfl⟩
  show Wl p l e _ s m _ below meth c n0 _ (some ("com/example/escrow/escrow/TransactionState", 57, z)) h0 0 0 (mkF m 6 #[.val (.ref s_CREATED), .val (.ref s_PENDING)] [(.ref s_PENDING)])
  refine Wl.st (g' := (mkF m 7 #[.val (.ref s_CREATED), .val (.ref s_PENDING)] [])) (fun X t q => XS.pop X.here C.hx rfl (hb C.hby d3_6) rfl rfl q) ?_
  refine Wl.st (g' := (mkF m 8 #[.val (.ref s_CREATED), .val (.ref s_PENDING)] [(.ref s_CREATED)])) (fun X t q => XS.aloadN X.here C.hx rfl (hb C.hby d3_7) rfl rfl q) ?_
  refine Wl.callU C (x := (⟨"com/example/escrow/escrow/TransactionState", "ordinal", "()I"⟩ : MethodName)) (z := (⟨"java/lang/Enum", "ordinal", "()I"⟩ : MethodName)) (K := "com/example/escrow/escrow/TransactionState") (owner := "java/lang/Enum") (hw _ (List.mem_of_getElem? (i := 34) rfl)) (hw _ (List.mem_of_getElem? (i := 35) rfl)) (hw _ (List.mem_of_getElem? (i := 36) rfl)) (hw _ (List.mem_of_getElem? (i := 38) rfl)) (hw _ (List.mem_of_getElem? (i := 37) rfl)) (hw _ (List.mem_of_getElem? (i := 39) rfl)) (hw _ (List.mem_of_getElem? (i := 40) rfl)) (by decide) (en_E_CREATED EN) ((own_m5_3 l Z a0 hw n0 h0 s_CREATED s_PENDING s_COMMITTED s_FINISHED s_TERMINATING s_ROLLED_BACK EN ).toL (some ("com/example/escrow/escrow/TransactionState", 57, z))) (w := 0) (by decide) (by decide) pd_4 rfl (rest := []) rfl rfl (Nat.le_of_eq rfl) (by decide) (by decide) d3_8 ?_
  rintro _ _ _ ⟨⟨rfl, rfl⟩, rfl⟩
  show Wl p l e _ s m _ below meth c n0 _ (some ("com/example/escrow/escrow/TransactionState", 57, z)) h0 0 0 (mkF m 11 #[.val (.ref s_CREATED), .val (.ref s_PENDING)] [(.int (0 : Int32))])
  refine Wl.st (g' := (mkF m 58 #[.val (.ref s_CREATED), .val (.ref s_PENDING)] [])) (fun X t q => XS.tswIn X.here C.hx rfl (pc0 := 11) (pc' := 58) rfl (hb C.hby d3_11) rfl (by decide) (o := 47) rfl (by decide) (by decide) q) ?_
  refine Wl.st (g' := (mkF m 59 #[.val (.ref s_CREATED), .val (.ref s_PENDING)] [(.ref s_PENDING)])) (fun X t q => XS.aloadN X.here C.hx rfl (hb C.hby d3_58) rfl rfl q) ?_
  refine Wl.getS C (hw _ (List.mem_of_getElem? (i := 43) rfl)) (en_S_PENDING EN) d3_59 ?_
  show Wl p l e _ s m _ below meth c n0 _ (some ("com/example/escrow/escrow/TransactionState", 57, z)) h0 0 0 (mkF m 62 #[.val (.ref s_CREATED), .val (.ref s_PENDING)] [(.ref s_PENDING), (.ref s_PENDING)])
  refine Wl.st (g' := (mkF m 72 #[.val (.ref s_CREATED), .val (.ref s_PENDING)] [])) (fun X t q => Jvm.RoadKit.acmp (g := (mkF m 62 #[.val (.ref s_CREATED), .val (.ref s_PENDING)] [(.ref s_PENDING), (.ref s_PENDING)])) X C.hx rfl rfl rfl (pc0 := 62) (pc' := 72) (same := true) rfl (hb C.hby d3_62) rfl (decide_eq_true (congrArg Value.ref rfl)) (by decide) (by decide) q) ?_
  refine Wl.st (g' := (mkF m 73 #[.val (.ref s_CREATED), .val (.ref s_PENDING)] [(.int (1 : Int32))])) (fun X t q => XS.iconst X.here C.hx rfl (hb C.hby d3_72) q) ?_
  refine Wl.st (g' := (mkF m 133 #[.val (.ref s_CREATED), .val (.ref s_PENDING)] [(.int (1 : Int32))])) (fun X t q => XS.goto X.here C.hx rfl (pc0 := 73) (pc' := 133) rfl (hb C.hby d3_73) (by decide) (by decide) q) ?_
  exact Wl.retV C (t := .boolean) rfl rfl (Or.inl ⟨rfl, by simp, _, rfl⟩) d3_133 (by decide) (by decide) ⟨rfl, rfl, rfl⟩
set_option maxRecDepth 65536 in
set_option maxHeartbeats 40000000 in
theorem own_m1_7 (l : Launch) (Z : State) (a0 : Array Value) (hw : ∀ d ∈ tables_1, d.before a0 Z = true) (n0 : Nat) (h0 : Heap) (s_CREATED s_PENDING s_COMMITTED s_FINISHED s_TERMINATING s_ROLLED_BACK : Addr) (EN : Enm Z h0 s_CREATED s_PENDING s_COMMITTED s_FINISHED s_TERMINATING s_ROLLED_BACK) :
    Met true l Z n0 (⟨"com/example/escrow/escrow/TransactionStateIsEndedPinLaw", "pick", "(I)Lcom/example/escrow/escrow/TransactionState;"⟩ : MethodName) method_2_code 1 (some (.object "com/example/escrow/escrow/TransactionState")) ({ frames := 0, cells := 0, slots := 0, locals := 0 } : Room) #[(.int (1 : Int32))] h0 (fun v h => v = some (.ref s_PENDING) ∧ h0 = h) := by
  refine Met.of pn_0 #[.val (.int (1 : Int32))] (fun m => by first | (simp [entryFrame, mkF, argsToLocals, Value.category]; done) | rfl) ?_
  intro p e s m below meth c C
  refine Wk.st (g' := (mkF m 1 #[.val (.int (1 : Int32))] [(.int (1 : Int32))])) (fun X t q => XS.iloadN X.here C.hx rfl (hb C.hby d1_0) rfl q) ?_
  refine Wk.st (g' := (mkF m 8 #[.val (.int (1 : Int32))] [])) (fun X t q => XS.ifYes X.here C.hx rfl (pc0 := 1) (pc' := 8) rfl (hb C.hby d1_1) rfl (XT.i0_ne_t (by decide)) (by decide) (by decide) q) ?_
  refine Wk.st (g' := (mkF m 9 #[.val (.int (1 : Int32))] [(.int (1 : Int32))])) (fun X t q => XS.iloadN X.here C.hx rfl (hb C.hby d1_8) rfl q) ?_
  refine Wk.st (g' := (mkF m 10 #[.val (.int (1 : Int32))] [(.int (1 : Int32)), (.int (1 : Int32))])) (fun X t q => XS.iconst X.here C.hx rfl (hb C.hby d1_9) q) ?_
  refine Wk.st (g' := (mkF m 13 #[.val (.int (1 : Int32))] [])) (fun X t q => XS.icmpNo X.here C.hx rfl (hb C.hby d1_10) rfl (XT.ii_ne_f (by decide)) q) ?_
  refine Wk.getS C (hw _ (List.mem_of_getElem? (i := 47) rfl)) (en_S_PENDING EN) d1_13 ?_
  show Wk _ p l e _ s m _ below meth c n0 _ h0 0 0 (mkF m 16 #[.val (.int (1 : Int32))] [(.ref s_PENDING)])
  exact Wk.retV C (t := (.object "com/example/escrow/escrow/TransactionState")) rfl rfl (Or.inr (Or.inr (Or.inr (Or.inr ⟨rfl, rfl, rfl⟩)))) d1_16 (by decide) (by decide) ⟨rfl, rfl⟩
set_option maxRecDepth 65536 in
set_option maxHeartbeats 40000000 in
theorem own_m2_8 (l : Launch) (Z : State) (a0 : Array Value) (hw : ∀ d ∈ tables_1, d.before a0 Z = true) (n0 : Nat) (h0 : Heap) (s_CREATED s_PENDING s_COMMITTED s_FINISHED s_TERMINATING s_ROLLED_BACK : Addr) (EN : Enm Z h0 s_CREATED s_PENDING s_COMMITTED s_FINISHED s_TERMINATING s_ROLLED_BACK) :
    Met true l Z n0 (⟨"com/example/escrow/escrow/TransactionState", "isEnded", "()Z"⟩ : MethodName) prog_34_method_6_code 1 (some .boolean) ({ frames := 0, cells := 0, slots := 0, locals := 0 } : Room) #[(.ref s_PENDING)] h0 (fun v h => v = some (.int (0 : Int32)) ∧ h0 = h) := by
  refine Met.of pn_1 #[.val (.ref s_PENDING)] (fun m => by first | (simp [entryFrame, mkF, argsToLocals, Value.category]; done) | rfl) ?_
  intro p e s m below meth c C
  refine Wk.st (g' := (mkF m 1 #[.val (.ref s_PENDING)] [(.ref s_PENDING)])) (fun X t q => XS.aloadN X.here C.hx rfl (hb C.hby d2_0) rfl rfl q) ?_
  refine Wk.getS C (hw _ (List.mem_of_getElem? (i := 13) rfl)) (en_S_FINISHED EN) d2_1 ?_
  show Wk _ p l e _ s m _ below meth c n0 _ h0 0 0 (mkF m 4 #[.val (.ref s_PENDING)] [(.ref s_FINISHED), (.ref s_PENDING)])
  refine Wk.st (g' := (mkF m 7 #[.val (.ref s_PENDING)] [])) (fun X t q => Jvm.RoadKit.acmp (g := (mkF m 4 #[.val (.ref s_PENDING)] [(.ref s_FINISHED), (.ref s_PENDING)])) X C.hx rfl rfl rfl (pc0 := 4) (pc' := 7) (same := false) rfl (hb C.hby d2_4) rfl (decide_eq_false fun q => (ne_fld (en_O_PENDING_ordinal EN) (en_O_FINISHED_ordinal EN) (by decide)) (Value.ref.inj q)) (by decide) (by decide) q) ?_
  refine Wk.st (g' := (mkF m 8 #[.val (.ref s_PENDING)] [(.ref s_PENDING)])) (fun X t q => XS.aloadN X.here C.hx rfl (hb C.hby d2_7) rfl rfl q) ?_
  refine Wk.getS C (hw _ (List.mem_of_getElem? (i := 15) rfl)) (en_S_ROLLED_BACK EN) d2_8 ?_
  show Wk _ p l e _ s m _ below meth c n0 _ h0 0 0 (mkF m 11 #[.val (.ref s_PENDING)] [(.ref s_ROLLED_BACK), (.ref s_PENDING)])
  refine Wk.st (g' := (mkF m 18 #[.val (.ref s_PENDING)] [])) (fun X t q => Jvm.RoadKit.acmp (g := (mkF m 11 #[.val (.ref s_PENDING)] [(.ref s_ROLLED_BACK), (.ref s_PENDING)])) X C.hx rfl rfl rfl (pc0 := 11) (pc' := 18) (same := false) rfl (hb C.hby d2_11) rfl (decide_eq_false fun q => (ne_fld (en_O_PENDING_ordinal EN) (en_O_ROLLED_BACK_ordinal EN) (by decide)) (Value.ref.inj q)) (by decide) (by decide) q) ?_
  refine Wk.st (g' := (mkF m 19 #[.val (.ref s_PENDING)] [(.int (0 : Int32))])) (fun X t q => XS.iconst X.here C.hx rfl (hb C.hby d2_18) q) ?_
  exact Wk.retV C (t := .boolean) rfl rfl (Or.inl ⟨rfl, by simp, _, rfl⟩) d2_19 (by decide) (by decide) ⟨rfl, rfl⟩
set_option maxRecDepth 65536 in
set_option maxHeartbeats 40000000 in
theorem own_m5_9 (l : Launch) (Z : State) (a0 : Array Value) (hw : ∀ d ∈ tables_1, d.before a0 Z = true) (n0 : Nat) (h0 : Heap) (s_CREATED s_PENDING s_COMMITTED s_FINISHED s_TERMINATING s_ROLLED_BACK : Addr) (EN : Enm Z h0 s_CREATED s_PENDING s_COMMITTED s_FINISHED s_TERMINATING s_ROLLED_BACK) :
    Met true l Z n0 (⟨"java/lang/Enum", "ordinal", "()I"⟩ : MethodName) jdk_37_method_2_code 1 (some .int) ({ frames := 0, cells := 0, slots := 0, locals := 0 } : Room) #[(.ref s_PENDING)] h0 (fun v h => v = some (.int (1 : Int32)) ∧ h0 = h) := by
  refine Met.of pn_3 #[.val (.ref s_PENDING)] (fun m => by first | (simp [entryFrame, mkF, argsToLocals, Value.category]; done) | rfl) ?_
  intro p e s m below meth c C
  refine Wk.st (g' := (mkF m 1 #[.val (.ref s_PENDING)] [(.ref s_PENDING)])) (fun X t q => XS.aloadN X.here C.hx rfl (hb C.hby d5_0) rfl rfl q) ?_
  refine Wk.getF C (hw _ (List.mem_of_getElem? (i := 41) rfl)) Via.refl (en_O_PENDING_ordinal EN) d5_1 ?_
  show Wk _ p l e _ s m _ below meth c n0 _ h0 0 0 (mkF m 4 #[.val (.ref s_PENDING)] [(.int (1 : Int32))])
  exact Wk.retV C (t := .int) rfl rfl (Or.inl ⟨rfl, by simp, _, rfl⟩) d5_4 (by decide) (by decide) ⟨rfl, rfl⟩
set_option maxRecDepth 65536 in
set_option maxHeartbeats 40000000 in
theorem own_c9 (l : Launch) (Z : State) (a0 : Array Value) (hw : ∀ d ∈ tables_1, d.before a0 Z = true) (n0 : Nat) (h0 : Heap) (s_CREATED s_PENDING s_COMMITTED s_FINISHED s_TERMINATING s_ROLLED_BACK : Addr) (EN : Enm Z h0 s_CREATED s_PENDING s_COMMITTED s_FINISHED s_TERMINATING s_ROLLED_BACK) :
    MetL l Z n0 (⟨"com/example/escrow/escrow/TransactionState", "canMoveTo", "(Lcom/example/escrow/escrow/TransactionState;)Z"⟩ : MethodName) prog_34_method_7_code 2 (some .boolean) ({ frames := 1, cells := 2, slots := 20, locals := 13 } : Room) #[(.ref s_PENDING), (.ref s_CREATED)] none h0 (fun v h lt => v = some (.int (0 : Int32)) ∧ Ext h0 h ∧ ∃ a, lt = some ("com/example/escrow/escrow/TransactionState", 57, a)) := by
  refine MetL.of pn_1 #[.val (.ref s_PENDING), .val (.ref s_CREATED)] (fun m => by first | (simp [entryFrame, mkF, argsToLocals, Value.category]; done) | rfl) ?_
  intro p e s m below meth c C
  refine Wl.st (g' := (mkF m 1 #[.val (.ref s_PENDING), .val (.ref s_CREATED)] [(.ref s_CREATED)])) (fun X t q => XS.aloadN X.here C.hx rfl (hb C.hby d3_0) rfl rfl q) ?_
  refine Wl.ldcS C (hw _ (List.mem_of_getElem? (i := 22) rfl)) (own_wS hw) (N := 16) (by decide) (by decide) d3_1 (by decide) (by decide) ?_
  intro h1 a2 E3
  show Wl p l e _ s m _ below meth c n0 _ (some ("com/example/escrow/escrow/TransactionState", 57, a2)) h1 2 20 (mkF m 3 #[.val (.ref s_PENDING), .val (.ref s_CREATED)] [(.ref a2), (.ref s_CREATED)])
  refine Wl.callS C (z := (⟨"java/util/Objects", "requireNonNull", "(Ljava/lang/Object;Ljava/lang/String;)Ljava/lang/Object;"⟩ : MethodName)) (hw _ (List.mem_of_getElem? (i := 30) rfl)) (hw _ (List.mem_of_getElem? (i := 31) rfl)) (hw _ (List.mem_of_getElem? (i := 32) rfl)) (hw _ (List.mem_of_getElem? (i := 33) rfl)) (by decide) ((own_m4_2 l Z a0 hw n0 h1 s_CREATED s_PENDING s_COMMITTED s_FINISHED s_TERMINATING s_ROLLED_BACK (EN.ext E3) a2).toL (some ("com/example/escrow/escrow/TransactionState", 57, a2))) (w := 0) (by decide) (by decide) pd_3 rfl (rest := []) rfl rfl (Nat.le_of_eq rfl) (by decide) (by decide) d3_3 ?_
  rintro _ _ _ ⟨⟨rfl, rfl⟩, rfl⟩
  show Wl p l e _ s m _ below meth c n0 _ (some ("com/example/escrow/escrow/TransactionState", 57, a2)) h1 2 20 (mkF m 6 #[.val (.ref s_PENDING), .val (.ref s_CREATED)] [(.ref s_CREATED)])
  refine Wl.st (g' := (mkF m 7 #[.val (.ref s_PENDING), .val (.ref s_CREATED)] [])) (fun X t q => XS.pop X.here C.hx rfl (hb C.hby d3_6) rfl rfl q) ?_
  refine Wl.st (g' := (mkF m 8 #[.val (.ref s_PENDING), .val (.ref s_CREATED)] [(.ref s_PENDING)])) (fun X t q => XS.aloadN X.here C.hx rfl (hb C.hby d3_7) rfl rfl q) ?_
  refine Wl.callU C (x := (⟨"com/example/escrow/escrow/TransactionState", "ordinal", "()I"⟩ : MethodName)) (z := (⟨"java/lang/Enum", "ordinal", "()I"⟩ : MethodName)) (K := "com/example/escrow/escrow/TransactionState") (owner := "java/lang/Enum") (hw _ (List.mem_of_getElem? (i := 34) rfl)) (hw _ (List.mem_of_getElem? (i := 35) rfl)) (hw _ (List.mem_of_getElem? (i := 36) rfl)) (hw _ (List.mem_of_getElem? (i := 38) rfl)) (hw _ (List.mem_of_getElem? (i := 37) rfl)) (hw _ (List.mem_of_getElem? (i := 39) rfl)) (hw _ (List.mem_of_getElem? (i := 40) rfl)) (by decide) (en_E_PENDING (EN.ext E3)) ((own_m5_9 l Z a0 hw n0 h1 s_CREATED s_PENDING s_COMMITTED s_FINISHED s_TERMINATING s_ROLLED_BACK (EN.ext E3) ).toL (some ("com/example/escrow/escrow/TransactionState", 57, a2))) (w := 0) (by decide) (by decide) pd_4 rfl (rest := []) rfl rfl (Nat.le_of_eq rfl) (by decide) (by decide) d3_8 ?_
  rintro _ _ _ ⟨⟨rfl, rfl⟩, rfl⟩
  show Wl p l e _ s m _ below meth c n0 _ (some ("com/example/escrow/escrow/TransactionState", 57, a2)) h1 2 20 (mkF m 11 #[.val (.ref s_PENDING), .val (.ref s_CREATED)] [(.int (1 : Int32))])
  refine Wl.st (g' := (mkF m 80 #[.val (.ref s_PENDING), .val (.ref s_CREATED)] [])) (fun X t q => XS.tswIn X.here C.hx rfl (pc0 := 11) (pc' := 80) rfl (hb C.hby d3_11) rfl (by decide) (o := 69) rfl (by decide) (by decide) q) ?_
  refine Wl.st (g' := (mkF m 81 #[.val (.ref s_PENDING), .val (.ref s_CREATED)] [(.ref s_CREATED)])) (fun X t q => XS.aloadN X.here C.hx rfl (hb C.hby d3_80) rfl rfl q) ?_
  refine Wl.getS C (hw _ (List.mem_of_getElem? (i := 53) rfl)) (en_S_COMMITTED (EN.ext E3)) d3_81 ?_
  show Wl p l e _ s m _ below meth c n0 _ (some ("com/example/escrow/escrow/TransactionState", 57, a2)) h1 2 20 (mkF m 84 #[.val (.ref s_PENDING), .val (.ref s_CREATED)] [(.ref s_COMMITTED), (.ref s_CREATED)])
  refine Wl.st (g' := (mkF m 87 #[.val (.ref s_PENDING), .val (.ref s_CREATED)] [])) (fun X t q => Jvm.RoadKit.acmp (g := (mkF m 84 #[.val (.ref s_PENDING), .val (.ref s_CREATED)] [(.ref s_COMMITTED), (.ref s_CREATED)])) X C.hx rfl rfl rfl (pc0 := 84) (pc' := 87) (same := false) rfl (hb C.hby d3_84) rfl (decide_eq_false fun q => (ne_fld (en_O_CREATED_ordinal (EN.ext E3)) (en_O_COMMITTED_ordinal (EN.ext E3)) (by decide)) (Value.ref.inj q)) (by decide) (by decide) q) ?_
  refine Wl.st (g' := (mkF m 88 #[.val (.ref s_PENDING), .val (.ref s_CREATED)] [(.ref s_CREATED)])) (fun X t q => XS.aloadN X.here C.hx rfl (hb C.hby d3_87) rfl rfl q) ?_
  refine Wl.getS C (hw _ (List.mem_of_getElem? (i := 45) rfl)) (en_S_TERMINATING (EN.ext E3)) d3_88 ?_
  show Wl p l e _ s m _ below meth c n0 _ (some ("com/example/escrow/escrow/TransactionState", 57, a2)) h1 2 20 (mkF m 91 #[.val (.ref s_PENDING), .val (.ref s_CREATED)] [(.ref s_TERMINATING), (.ref s_CREATED)])
  refine Wl.st (g' := (mkF m 98 #[.val (.ref s_PENDING), .val (.ref s_CREATED)] [])) (fun X t q => Jvm.RoadKit.acmp (g := (mkF m 91 #[.val (.ref s_PENDING), .val (.ref s_CREATED)] [(.ref s_TERMINATING), (.ref s_CREATED)])) X C.hx rfl rfl rfl (pc0 := 91) (pc' := 98) (same := false) rfl (hb C.hby d3_91) rfl (decide_eq_false fun q => (ne_fld (en_O_CREATED_ordinal (EN.ext E3)) (en_O_TERMINATING_ordinal (EN.ext E3)) (by decide)) (Value.ref.inj q)) (by decide) (by decide) q) ?_
  refine Wl.st (g' := (mkF m 99 #[.val (.ref s_PENDING), .val (.ref s_CREATED)] [(.int (0 : Int32))])) (fun X t q => XS.iconst X.here C.hx rfl (hb C.hby d3_98) q) ?_
  refine Wl.st (g' := (mkF m 133 #[.val (.ref s_PENDING), .val (.ref s_CREATED)] [(.int (0 : Int32))])) (fun X t q => XS.goto X.here C.hx rfl (pc0 := 99) (pc' := 133) rfl (hb C.hby d3_99) (by decide) (by decide) q) ?_
  exact Wl.retV C (t := .boolean) rfl rfl (Or.inl ⟨rfl, by simp, _, rfl⟩) d3_133 (by decide) (by decide) ⟨rfl, E3, a2, rfl⟩
set_option maxRecDepth 65536 in
set_option maxHeartbeats 40000000 in
theorem own_c11 (l : Launch) (Z : State) (a0 : Array Value) (hw : ∀ d ∈ tables_1, d.before a0 Z = true) (n0 : Nat) (h0 : Heap) (s_CREATED s_PENDING s_COMMITTED s_FINISHED s_TERMINATING s_ROLLED_BACK : Addr) (EN : Enm Z h0 s_CREATED s_PENDING s_COMMITTED s_FINISHED s_TERMINATING s_ROLLED_BACK) (z : Addr) :
    MetL l Z n0 (⟨"com/example/escrow/escrow/TransactionState", "canMoveTo", "(Lcom/example/escrow/escrow/TransactionState;)Z"⟩ : MethodName) prog_34_method_7_code 2 (some .boolean) ({ frames := 1, cells := 0, slots := 0, locals := 13 } : Room) #[(.ref s_PENDING), (.ref s_PENDING)] (some ("com/example/escrow/escrow/TransactionState", 57, z)) h0 (fun v h lt => v = some (.int (0 : Int32)) ∧ h0 = h ∧ lt = some ("com/example/escrow/escrow/TransactionState", 57, z)) := by
  refine MetL.of pn_1 #[.val (.ref s_PENDING), .val (.ref s_PENDING)] (fun m => by first | (simp [entryFrame, mkF, argsToLocals, Value.category]; done) | rfl) ?_
  intro p e s m below meth c C
  refine Wl.st (g' := (mkF m 1 #[.val (.ref s_PENDING), .val (.ref s_PENDING)] [(.ref s_PENDING)])) (fun X t q => XS.aloadN X.here C.hx rfl (hb C.hby d3_0) rfl rfl q) ?_
  refine Wl.ldcA C (hw _ (List.mem_of_getElem? (i := 22) rfl)) (a := z) d3_1 ?_
  show Wl p l e _ s m _ below meth c n0 _ (some ("com/example/escrow/escrow/TransactionState", 57, z)) h0 0 0 (mkF m 3 #[.val (.ref s_PENDING), .val (.ref s_PENDING)] [(.ref z), (.ref s_PENDING)])
  refine Wl.callS C (z := (⟨"java/util/Objects", "requireNonNull", "(Ljava/lang/Object;Ljava/lang/String;)Ljava/lang/Object;"⟩ : MethodName)) (hw _ (List.mem_of_getElem? (i := 30) rfl)) (hw _ (List.mem_of_getElem? (i := 31) rfl)) (hw _ (List.mem_of_getElem? (i := 32) rfl)) (hw _ (List.mem_of_getElem? (i := 33) rfl)) (by decide) ((own_m4_5 l Z a0 hw n0 h0 s_CREATED s_PENDING s_COMMITTED s_FINISHED s_TERMINATING s_ROLLED_BACK EN z).toL (some ("com/example/escrow/escrow/TransactionState", 57, z))) (w := 0) (by decide) (by decide) pd_3 rfl (rest := []) rfl rfl (Nat.le_of_eq rfl) (by decide) (by decide) d3_3 ?_
  rintro _ _ _ ⟨⟨rfl, rfl⟩, rfl⟩
  show Wl p l e _ s m _ below meth c n0 _ (some ("com/example/escrow/escrow/TransactionState", 57, z)) h0 0 0 (mkF m 6 #[.val (.ref s_PENDING), .val (.ref s_PENDING)] [(.ref s_PENDING)])
  refine Wl.st (g' := (mkF m 7 #[.val (.ref s_PENDING), .val (.ref s_PENDING)] [])) (fun X t q => XS.pop X.here C.hx rfl (hb C.hby d3_6) rfl rfl q) ?_
  refine Wl.st (g' := (mkF m 8 #[.val (.ref s_PENDING), .val (.ref s_PENDING)] [(.ref s_PENDING)])) (fun X t q => XS.aloadN X.here C.hx rfl (hb C.hby d3_7) rfl rfl q) ?_
  refine Wl.callU C (x := (⟨"com/example/escrow/escrow/TransactionState", "ordinal", "()I"⟩ : MethodName)) (z := (⟨"java/lang/Enum", "ordinal", "()I"⟩ : MethodName)) (K := "com/example/escrow/escrow/TransactionState") (owner := "java/lang/Enum") (hw _ (List.mem_of_getElem? (i := 34) rfl)) (hw _ (List.mem_of_getElem? (i := 35) rfl)) (hw _ (List.mem_of_getElem? (i := 36) rfl)) (hw _ (List.mem_of_getElem? (i := 38) rfl)) (hw _ (List.mem_of_getElem? (i := 37) rfl)) (hw _ (List.mem_of_getElem? (i := 39) rfl)) (hw _ (List.mem_of_getElem? (i := 40) rfl)) (by decide) (en_E_PENDING EN) ((own_m5_9 l Z a0 hw n0 h0 s_CREATED s_PENDING s_COMMITTED s_FINISHED s_TERMINATING s_ROLLED_BACK EN ).toL (some ("com/example/escrow/escrow/TransactionState", 57, z))) (w := 0) (by decide) (by decide) pd_4 rfl (rest := []) rfl rfl (Nat.le_of_eq rfl) (by decide) (by decide) d3_8 ?_
  rintro _ _ _ ⟨⟨rfl, rfl⟩, rfl⟩
  show Wl p l e _ s m _ below meth c n0 _ (some ("com/example/escrow/escrow/TransactionState", 57, z)) h0 0 0 (mkF m 11 #[.val (.ref s_PENDING), .val (.ref s_PENDING)] [(.int (1 : Int32))])
  refine Wl.st (g' := (mkF m 80 #[.val (.ref s_PENDING), .val (.ref s_PENDING)] [])) (fun X t q => XS.tswIn X.here C.hx rfl (pc0 := 11) (pc' := 80) rfl (hb C.hby d3_11) rfl (by decide) (o := 69) rfl (by decide) (by decide) q) ?_
  refine Wl.st (g' := (mkF m 81 #[.val (.ref s_PENDING), .val (.ref s_PENDING)] [(.ref s_PENDING)])) (fun X t q => XS.aloadN X.here C.hx rfl (hb C.hby d3_80) rfl rfl q) ?_
  refine Wl.getS C (hw _ (List.mem_of_getElem? (i := 53) rfl)) (en_S_COMMITTED EN) d3_81 ?_
  show Wl p l e _ s m _ below meth c n0 _ (some ("com/example/escrow/escrow/TransactionState", 57, z)) h0 0 0 (mkF m 84 #[.val (.ref s_PENDING), .val (.ref s_PENDING)] [(.ref s_COMMITTED), (.ref s_PENDING)])
  refine Wl.st (g' := (mkF m 87 #[.val (.ref s_PENDING), .val (.ref s_PENDING)] [])) (fun X t q => Jvm.RoadKit.acmp (g := (mkF m 84 #[.val (.ref s_PENDING), .val (.ref s_PENDING)] [(.ref s_COMMITTED), (.ref s_PENDING)])) X C.hx rfl rfl rfl (pc0 := 84) (pc' := 87) (same := false) rfl (hb C.hby d3_84) rfl (decide_eq_false fun q => (ne_fld (en_O_PENDING_ordinal EN) (en_O_COMMITTED_ordinal EN) (by decide)) (Value.ref.inj q)) (by decide) (by decide) q) ?_
  refine Wl.st (g' := (mkF m 88 #[.val (.ref s_PENDING), .val (.ref s_PENDING)] [(.ref s_PENDING)])) (fun X t q => XS.aloadN X.here C.hx rfl (hb C.hby d3_87) rfl rfl q) ?_
  refine Wl.getS C (hw _ (List.mem_of_getElem? (i := 45) rfl)) (en_S_TERMINATING EN) d3_88 ?_
  show Wl p l e _ s m _ below meth c n0 _ (some ("com/example/escrow/escrow/TransactionState", 57, z)) h0 0 0 (mkF m 91 #[.val (.ref s_PENDING), .val (.ref s_PENDING)] [(.ref s_TERMINATING), (.ref s_PENDING)])
  refine Wl.st (g' := (mkF m 98 #[.val (.ref s_PENDING), .val (.ref s_PENDING)] [])) (fun X t q => Jvm.RoadKit.acmp (g := (mkF m 91 #[.val (.ref s_PENDING), .val (.ref s_PENDING)] [(.ref s_TERMINATING), (.ref s_PENDING)])) X C.hx rfl rfl rfl (pc0 := 91) (pc' := 98) (same := false) rfl (hb C.hby d3_91) rfl (decide_eq_false fun q => (ne_fld (en_O_PENDING_ordinal EN) (en_O_TERMINATING_ordinal EN) (by decide)) (Value.ref.inj q)) (by decide) (by decide) q) ?_
  refine Wl.st (g' := (mkF m 99 #[.val (.ref s_PENDING), .val (.ref s_PENDING)] [(.int (0 : Int32))])) (fun X t q => XS.iconst X.here C.hx rfl (hb C.hby d3_98) q) ?_
  refine Wl.st (g' := (mkF m 133 #[.val (.ref s_PENDING), .val (.ref s_PENDING)] [(.int (0 : Int32))])) (fun X t q => XS.goto X.here C.hx rfl (pc0 := 99) (pc' := 133) rfl (hb C.hby d3_99) (by decide) (by decide) q) ?_
  exact Wl.retV C (t := .boolean) rfl rfl (Or.inl ⟨rfl, by simp, _, rfl⟩) d3_133 (by decide) (by decide) ⟨rfl, rfl, rfl⟩
set_option maxRecDepth 65536 in
set_option maxHeartbeats 40000000 in
theorem own_m4_12 (l : Launch) (Z : State) (a0 : Array Value) (hw : ∀ d ∈ tables_1, d.before a0 Z = true) (n0 : Nat) (h0 : Heap) (s_CREATED s_PENDING s_COMMITTED s_FINISHED s_TERMINATING s_ROLLED_BACK : Addr) (EN : Enm Z h0 s_CREATED s_PENDING s_COMMITTED s_FINISHED s_TERMINATING s_ROLLED_BACK) (z0 : Addr) :
    Met true l Z n0 (⟨"java/util/Objects", "requireNonNull", "(Ljava/lang/Object;Ljava/lang/String;)Ljava/lang/Object;"⟩ : MethodName) jdk_31_method_11_code 2 (some (.object "java/lang/Object")) ({ frames := 0, cells := 0, slots := 0, locals := 0 } : Room) #[(.ref s_COMMITTED), (.ref z0)] h0 (fun v h => v = some (.ref s_COMMITTED) ∧ h0 = h) := by
  refine Met.of pn_2 #[.val (.ref s_COMMITTED), .val (.ref z0)] (fun m => by first | (simp [entryFrame, mkF, argsToLocals, Value.category]; done) | rfl) ?_
  intro p e s m below meth c C
  refine Wk.st (g' := (mkF m 1 #[.val (.ref s_COMMITTED), .val (.ref z0)] [(.ref s_COMMITTED)])) (fun X t q => XS.aloadN X.here C.hx rfl (hb C.hby d4_0) rfl rfl q) ?_
  refine Wk.st (g' := (mkF m 13 #[.val (.ref s_COMMITTED), .val (.ref z0)] [])) (fun X t q => XS.ifnonnullYes X.here C.hx rfl (pc0 := 1) (pc' := 13) rfl (hb C.hby d4_1) rfl (by decide) (by decide) q) ?_
  refine Wk.st (g' := (mkF m 14 #[.val (.ref s_COMMITTED), .val (.ref z0)] [(.ref s_COMMITTED)])) (fun X t q => XS.aloadN X.here C.hx rfl (hb C.hby d4_13) rfl rfl q) ?_
  exact Wk.retV C (t := (.object "java/lang/Object")) rfl rfl (Or.inr (Or.inr (Or.inr (Or.inr ⟨rfl, rfl, rfl⟩)))) d4_14 (by decide) (by decide) ⟨rfl, rfl⟩
set_option maxRecDepth 65536 in
set_option maxHeartbeats 40000000 in
theorem own_c12 (l : Launch) (Z : State) (a0 : Array Value) (hw : ∀ d ∈ tables_1, d.before a0 Z = true) (n0 : Nat) (h0 : Heap) (s_CREATED s_PENDING s_COMMITTED s_FINISHED s_TERMINATING s_ROLLED_BACK : Addr) (EN : Enm Z h0 s_CREATED s_PENDING s_COMMITTED s_FINISHED s_TERMINATING s_ROLLED_BACK) (z : Addr) :
    MetL l Z n0 (⟨"com/example/escrow/escrow/TransactionState", "canMoveTo", "(Lcom/example/escrow/escrow/TransactionState;)Z"⟩ : MethodName) prog_34_method_7_code 2 (some .boolean) ({ frames := 1, cells := 0, slots := 0, locals := 13 } : Room) #[(.ref s_PENDING), (.ref s_COMMITTED)] (some ("com/example/escrow/escrow/TransactionState", 57, z)) h0 (fun v h lt => v = some (.int (1 : Int32)) ∧ h0 = h ∧ lt = some ("com/example/escrow/escrow/TransactionState", 57, z)) := by
  refine MetL.of pn_1 #[.val (.ref s_PENDING), .val (.ref s_COMMITTED)] (fun m => by first | (simp [entryFrame, mkF, argsToLocals, Value.category]; done) | rfl) ?_
  intro p e s m below meth c C
  refine Wl.st (g' := (mkF m 1 #[.val (.ref s_PENDING), .val (.ref s_COMMITTED)] [(.ref s_COMMITTED)])) (fun X t q => XS.aloadN X.here C.hx rfl (hb C.hby d3_0) rfl rfl q) ?_
  refine Wl.ldcA C (hw _ (List.mem_of_getElem? (i := 22) rfl)) (a := z) d3_1 ?_
  show Wl p l e _ s m _ below meth c n0 _ (some ("com/example/escrow/escrow/TransactionState", 57, z)) h0 0 0 (mkF m 3 #[.val (.ref s_PENDING), .val (.ref s_COMMITTED)] [(.ref z), (.ref s_COMMITTED)])
  refine Wl.callS C (z := (⟨"java/util/Objects", "requireNonNull", "(Ljava/lang/Object;Ljava/lang/String;)Ljava/lang/Object;"⟩ : MethodName)) (hw _ (List.mem_of_getElem? (i := 30) rfl)) (hw _ (List.mem_of_getElem? (i := 31) rfl)) (hw _ (List.mem_of_getElem? (i := 32) rfl)) (hw _ (List.mem_of_getElem? (i := 33) rfl)) (by decide) ((own_m4_12 l Z a0 hw n0 h0 s_CREATED s_PENDING s_COMMITTED s_FINISHED s_TERMINATING s_ROLLED_BACK EN z).toL (some ("com/example/escrow/escrow/TransactionState", 57, z))) (w := 0) (by decide) (by decide) pd_3 rfl (rest := []) rfl rfl (Nat.le_of_eq rfl) (by decide) (by decide) d3_3 ?_
  rintro _ _ _ ⟨⟨rfl, rfl⟩, rfl⟩
  show Wl p l e _ s m _ below meth c n0 _ (some ("com/example/escrow/escrow/TransactionState", 57, z)) h0 0 0 (mkF m 6 #[.val (.ref s_PENDING), .val (.ref s_COMMITTED)] [(.ref s_COMMITTED)])
  refine Wl.st (g' := (mkF m 7 #[.val (.ref s_PENDING), .val (.ref s_COMMITTED)] [])) (fun X t q => XS.pop X.here C.hx rfl (hb C.hby d3_6) rfl rfl q) ?_
  refine Wl.st (g' := (mkF m 8 #[.val (.ref s_PENDING), .val (.ref s_COMMITTED)] [(.ref s_PENDING)])) (fun X t q => XS.aloadN X.here C.hx rfl (hb C.hby d3_7) rfl rfl q) ?_
  refine Wl.callU C (x := (⟨"com/example/escrow/escrow/TransactionState", "ordinal", "()I"⟩ : MethodName)) (z := (⟨"java/lang/Enum", "ordinal", "()I"⟩ : MethodName)) (K := "com/example/escrow/escrow/TransactionState") (owner := "java/lang/Enum") (hw _ (List.mem_of_getElem? (i := 34) rfl)) (hw _ (List.mem_of_getElem? (i := 35) rfl)) (hw _ (List.mem_of_getElem? (i := 36) rfl)) (hw _ (List.mem_of_getElem? (i := 38) rfl)) (hw _ (List.mem_of_getElem? (i := 37) rfl)) (hw _ (List.mem_of_getElem? (i := 39) rfl)) (hw _ (List.mem_of_getElem? (i := 40) rfl)) (by decide) (en_E_PENDING EN) ((own_m5_9 l Z a0 hw n0 h0 s_CREATED s_PENDING s_COMMITTED s_FINISHED s_TERMINATING s_ROLLED_BACK EN ).toL (some ("com/example/escrow/escrow/TransactionState", 57, z))) (w := 0) (by decide) (by decide) pd_4 rfl (rest := []) rfl rfl (Nat.le_of_eq rfl) (by decide) (by decide) d3_8 ?_
  rintro _ _ _ ⟨⟨rfl, rfl⟩, rfl⟩
  show Wl p l e _ s m _ below meth c n0 _ (some ("com/example/escrow/escrow/TransactionState", 57, z)) h0 0 0 (mkF m 11 #[.val (.ref s_PENDING), .val (.ref s_COMMITTED)] [(.int (1 : Int32))])
  refine Wl.st (g' := (mkF m 80 #[.val (.ref s_PENDING), .val (.ref s_COMMITTED)] [])) (fun X t q => XS.tswIn X.here C.hx rfl (pc0 := 11) (pc' := 80) rfl (hb C.hby d3_11) rfl (by decide) (o := 69) rfl (by decide) (by decide) q) ?_
  refine Wl.st (g' := (mkF m 81 #[.val (.ref s_PENDING), .val (.ref s_COMMITTED)] [(.ref s_COMMITTED)])) (fun X t q => XS.aloadN X.here C.hx rfl (hb C.hby d3_80) rfl rfl q) ?_
  refine Wl.getS C (hw _ (List.mem_of_getElem? (i := 53) rfl)) (en_S_COMMITTED EN) d3_81 ?_
  show Wl p l e _ s m _ below meth c n0 _ (some ("com/example/escrow/escrow/TransactionState", 57, z)) h0 0 0 (mkF m 84 #[.val (.ref s_PENDING), .val (.ref s_COMMITTED)] [(.ref s_COMMITTED), (.ref s_COMMITTED)])
  refine Wl.st (g' := (mkF m 94 #[.val (.ref s_PENDING), .val (.ref s_COMMITTED)] [])) (fun X t q => Jvm.RoadKit.acmp (g := (mkF m 84 #[.val (.ref s_PENDING), .val (.ref s_COMMITTED)] [(.ref s_COMMITTED), (.ref s_COMMITTED)])) X C.hx rfl rfl rfl (pc0 := 84) (pc' := 94) (same := true) rfl (hb C.hby d3_84) rfl (decide_eq_true (congrArg Value.ref rfl)) (by decide) (by decide) q) ?_
  refine Wl.st (g' := (mkF m 95 #[.val (.ref s_PENDING), .val (.ref s_COMMITTED)] [(.int (1 : Int32))])) (fun X t q => XS.iconst X.here C.hx rfl (hb C.hby d3_94) q) ?_
  refine Wl.st (g' := (mkF m 133 #[.val (.ref s_PENDING), .val (.ref s_COMMITTED)] [(.int (1 : Int32))])) (fun X t q => XS.goto X.here C.hx rfl (pc0 := 95) (pc' := 133) rfl (hb C.hby d3_95) (by decide) (by decide) q) ?_
  exact Wl.retV C (t := .boolean) rfl rfl (Or.inl ⟨rfl, by simp, _, rfl⟩) d3_133 (by decide) (by decide) ⟨rfl, rfl, rfl⟩
set_option maxRecDepth 65536 in
set_option maxHeartbeats 40000000 in
theorem own_m1_14 (l : Launch) (Z : State) (a0 : Array Value) (hw : ∀ d ∈ tables_1, d.before a0 Z = true) (n0 : Nat) (h0 : Heap) (s_CREATED s_PENDING s_COMMITTED s_FINISHED s_TERMINATING s_ROLLED_BACK : Addr) (EN : Enm Z h0 s_CREATED s_PENDING s_COMMITTED s_FINISHED s_TERMINATING s_ROLLED_BACK) :
    Met true l Z n0 (⟨"com/example/escrow/escrow/TransactionStateIsEndedPinLaw", "pick", "(I)Lcom/example/escrow/escrow/TransactionState;"⟩ : MethodName) method_2_code 1 (some (.object "com/example/escrow/escrow/TransactionState")) ({ frames := 0, cells := 0, slots := 0, locals := 0 } : Room) #[(.int (2 : Int32))] h0 (fun v h => v = some (.ref s_COMMITTED) ∧ h0 = h) := by
  refine Met.of pn_0 #[.val (.int (2 : Int32))] (fun m => by first | (simp [entryFrame, mkF, argsToLocals, Value.category]; done) | rfl) ?_
  intro p e s m below meth c C
  refine Wk.st (g' := (mkF m 1 #[.val (.int (2 : Int32))] [(.int (2 : Int32))])) (fun X t q => XS.iloadN X.here C.hx rfl (hb C.hby d1_0) rfl q) ?_
  refine Wk.st (g' := (mkF m 8 #[.val (.int (2 : Int32))] [])) (fun X t q => XS.ifYes X.here C.hx rfl (pc0 := 1) (pc' := 8) rfl (hb C.hby d1_1) rfl (XT.i0_ne_t (by decide)) (by decide) (by decide) q) ?_
  refine Wk.st (g' := (mkF m 9 #[.val (.int (2 : Int32))] [(.int (2 : Int32))])) (fun X t q => XS.iloadN X.here C.hx rfl (hb C.hby d1_8) rfl q) ?_
  refine Wk.st (g' := (mkF m 10 #[.val (.int (2 : Int32))] [(.int (1 : Int32)), (.int (2 : Int32))])) (fun X t q => XS.iconst X.here C.hx rfl (hb C.hby d1_9) q) ?_
  refine Wk.st (g' := (mkF m 17 #[.val (.int (2 : Int32))] [])) (fun X t q => XS.icmpYes X.here C.hx rfl (pc0 := 10) (pc' := 17) rfl (hb C.hby d1_10) rfl (XT.ii_ne_t (by decide)) (by decide) (by decide) q) ?_
  refine Wk.st (g' := (mkF m 18 #[.val (.int (2 : Int32))] [(.int (2 : Int32))])) (fun X t q => XS.iloadN X.here C.hx rfl (hb C.hby d1_17) rfl q) ?_
  refine Wk.st (g' := (mkF m 19 #[.val (.int (2 : Int32))] [(.int (2 : Int32)), (.int (2 : Int32))])) (fun X t q => XS.iconst X.here C.hx rfl (hb C.hby d1_18) q) ?_
  refine Wk.st (g' := (mkF m 22 #[.val (.int (2 : Int32))] [])) (fun X t q => XS.icmpNo X.here C.hx rfl (hb C.hby d1_19) rfl (XT.ii_ne_f (by decide)) q) ?_
  refine Wk.getS C (hw _ (List.mem_of_getElem? (i := 49) rfl)) (en_S_COMMITTED EN) d1_22 ?_
  show Wk _ p l e _ s m _ below meth c n0 _ h0 0 0 (mkF m 25 #[.val (.int (2 : Int32))] [(.ref s_COMMITTED)])
  exact Wk.retV C (t := (.object "com/example/escrow/escrow/TransactionState")) rfl rfl (Or.inr (Or.inr (Or.inr (Or.inr ⟨rfl, rfl, rfl⟩)))) d1_25 (by decide) (by decide) ⟨rfl, rfl⟩
set_option maxRecDepth 65536 in
set_option maxHeartbeats 40000000 in
theorem own_m2_15 (l : Launch) (Z : State) (a0 : Array Value) (hw : ∀ d ∈ tables_1, d.before a0 Z = true) (n0 : Nat) (h0 : Heap) (s_CREATED s_PENDING s_COMMITTED s_FINISHED s_TERMINATING s_ROLLED_BACK : Addr) (EN : Enm Z h0 s_CREATED s_PENDING s_COMMITTED s_FINISHED s_TERMINATING s_ROLLED_BACK) :
    Met true l Z n0 (⟨"com/example/escrow/escrow/TransactionState", "isEnded", "()Z"⟩ : MethodName) prog_34_method_6_code 1 (some .boolean) ({ frames := 0, cells := 0, slots := 0, locals := 0 } : Room) #[(.ref s_COMMITTED)] h0 (fun v h => v = some (.int (0 : Int32)) ∧ h0 = h) := by
  refine Met.of pn_1 #[.val (.ref s_COMMITTED)] (fun m => by first | (simp [entryFrame, mkF, argsToLocals, Value.category]; done) | rfl) ?_
  intro p e s m below meth c C
  refine Wk.st (g' := (mkF m 1 #[.val (.ref s_COMMITTED)] [(.ref s_COMMITTED)])) (fun X t q => XS.aloadN X.here C.hx rfl (hb C.hby d2_0) rfl rfl q) ?_
  refine Wk.getS C (hw _ (List.mem_of_getElem? (i := 13) rfl)) (en_S_FINISHED EN) d2_1 ?_
  show Wk _ p l e _ s m _ below meth c n0 _ h0 0 0 (mkF m 4 #[.val (.ref s_COMMITTED)] [(.ref s_FINISHED), (.ref s_COMMITTED)])
  refine Wk.st (g' := (mkF m 7 #[.val (.ref s_COMMITTED)] [])) (fun X t q => Jvm.RoadKit.acmp (g := (mkF m 4 #[.val (.ref s_COMMITTED)] [(.ref s_FINISHED), (.ref s_COMMITTED)])) X C.hx rfl rfl rfl (pc0 := 4) (pc' := 7) (same := false) rfl (hb C.hby d2_4) rfl (decide_eq_false fun q => (ne_fld (en_O_COMMITTED_ordinal EN) (en_O_FINISHED_ordinal EN) (by decide)) (Value.ref.inj q)) (by decide) (by decide) q) ?_
  refine Wk.st (g' := (mkF m 8 #[.val (.ref s_COMMITTED)] [(.ref s_COMMITTED)])) (fun X t q => XS.aloadN X.here C.hx rfl (hb C.hby d2_7) rfl rfl q) ?_
  refine Wk.getS C (hw _ (List.mem_of_getElem? (i := 15) rfl)) (en_S_ROLLED_BACK EN) d2_8 ?_
  show Wk _ p l e _ s m _ below meth c n0 _ h0 0 0 (mkF m 11 #[.val (.ref s_COMMITTED)] [(.ref s_ROLLED_BACK), (.ref s_COMMITTED)])
  refine Wk.st (g' := (mkF m 18 #[.val (.ref s_COMMITTED)] [])) (fun X t q => Jvm.RoadKit.acmp (g := (mkF m 11 #[.val (.ref s_COMMITTED)] [(.ref s_ROLLED_BACK), (.ref s_COMMITTED)])) X C.hx rfl rfl rfl (pc0 := 11) (pc' := 18) (same := false) rfl (hb C.hby d2_11) rfl (decide_eq_false fun q => (ne_fld (en_O_COMMITTED_ordinal EN) (en_O_ROLLED_BACK_ordinal EN) (by decide)) (Value.ref.inj q)) (by decide) (by decide) q) ?_
  refine Wk.st (g' := (mkF m 19 #[.val (.ref s_COMMITTED)] [(.int (0 : Int32))])) (fun X t q => XS.iconst X.here C.hx rfl (hb C.hby d2_18) q) ?_
  exact Wk.retV C (t := .boolean) rfl rfl (Or.inl ⟨rfl, by simp, _, rfl⟩) d2_19 (by decide) (by decide) ⟨rfl, rfl⟩
set_option maxRecDepth 65536 in
set_option maxHeartbeats 40000000 in
theorem own_m5_16 (l : Launch) (Z : State) (a0 : Array Value) (hw : ∀ d ∈ tables_1, d.before a0 Z = true) (n0 : Nat) (h0 : Heap) (s_CREATED s_PENDING s_COMMITTED s_FINISHED s_TERMINATING s_ROLLED_BACK : Addr) (EN : Enm Z h0 s_CREATED s_PENDING s_COMMITTED s_FINISHED s_TERMINATING s_ROLLED_BACK) :
    Met true l Z n0 (⟨"java/lang/Enum", "ordinal", "()I"⟩ : MethodName) jdk_37_method_2_code 1 (some .int) ({ frames := 0, cells := 0, slots := 0, locals := 0 } : Room) #[(.ref s_COMMITTED)] h0 (fun v h => v = some (.int (2 : Int32)) ∧ h0 = h) := by
  refine Met.of pn_3 #[.val (.ref s_COMMITTED)] (fun m => by first | (simp [entryFrame, mkF, argsToLocals, Value.category]; done) | rfl) ?_
  intro p e s m below meth c C
  refine Wk.st (g' := (mkF m 1 #[.val (.ref s_COMMITTED)] [(.ref s_COMMITTED)])) (fun X t q => XS.aloadN X.here C.hx rfl (hb C.hby d5_0) rfl rfl q) ?_
  refine Wk.getF C (hw _ (List.mem_of_getElem? (i := 41) rfl)) Via.refl (en_O_COMMITTED_ordinal EN) d5_1 ?_
  show Wk _ p l e _ s m _ below meth c n0 _ h0 0 0 (mkF m 4 #[.val (.ref s_COMMITTED)] [(.int (2 : Int32))])
  exact Wk.retV C (t := .int) rfl rfl (Or.inl ⟨rfl, by simp, _, rfl⟩) d5_4 (by decide) (by decide) ⟨rfl, rfl⟩
set_option maxRecDepth 65536 in
set_option maxHeartbeats 40000000 in
theorem own_c16 (l : Launch) (Z : State) (a0 : Array Value) (hw : ∀ d ∈ tables_1, d.before a0 Z = true) (n0 : Nat) (h0 : Heap) (s_CREATED s_PENDING s_COMMITTED s_FINISHED s_TERMINATING s_ROLLED_BACK : Addr) (EN : Enm Z h0 s_CREATED s_PENDING s_COMMITTED s_FINISHED s_TERMINATING s_ROLLED_BACK) :
    MetL l Z n0 (⟨"com/example/escrow/escrow/TransactionState", "canMoveTo", "(Lcom/example/escrow/escrow/TransactionState;)Z"⟩ : MethodName) prog_34_method_7_code 2 (some .boolean) ({ frames := 1, cells := 2, slots := 20, locals := 13 } : Room) #[(.ref s_COMMITTED), (.ref s_CREATED)] none h0 (fun v h lt => v = some (.int (0 : Int32)) ∧ Ext h0 h ∧ ∃ a, lt = some ("com/example/escrow/escrow/TransactionState", 57, a)) := by
  refine MetL.of pn_1 #[.val (.ref s_COMMITTED), .val (.ref s_CREATED)] (fun m => by first | (simp [entryFrame, mkF, argsToLocals, Value.category]; done) | rfl) ?_
  intro p e s m below meth c C
  refine Wl.st (g' := (mkF m 1 #[.val (.ref s_COMMITTED), .val (.ref s_CREATED)] [(.ref s_CREATED)])) (fun X t q => XS.aloadN X.here C.hx rfl (hb C.hby d3_0) rfl rfl q) ?_
  refine Wl.ldcS C (hw _ (List.mem_of_getElem? (i := 22) rfl)) (own_wS hw) (N := 16) (by decide) (by decide) d3_1 (by decide) (by decide) ?_
  intro h1 a2 E3
  show Wl p l e _ s m _ below meth c n0 _ (some ("com/example/escrow/escrow/TransactionState", 57, a2)) h1 2 20 (mkF m 3 #[.val (.ref s_COMMITTED), .val (.ref s_CREATED)] [(.ref a2), (.ref s_CREATED)])
  refine Wl.callS C (z := (⟨"java/util/Objects", "requireNonNull", "(Ljava/lang/Object;Ljava/lang/String;)Ljava/lang/Object;"⟩ : MethodName)) (hw _ (List.mem_of_getElem? (i := 30) rfl)) (hw _ (List.mem_of_getElem? (i := 31) rfl)) (hw _ (List.mem_of_getElem? (i := 32) rfl)) (hw _ (List.mem_of_getElem? (i := 33) rfl)) (by decide) ((own_m4_2 l Z a0 hw n0 h1 s_CREATED s_PENDING s_COMMITTED s_FINISHED s_TERMINATING s_ROLLED_BACK (EN.ext E3) a2).toL (some ("com/example/escrow/escrow/TransactionState", 57, a2))) (w := 0) (by decide) (by decide) pd_3 rfl (rest := []) rfl rfl (Nat.le_of_eq rfl) (by decide) (by decide) d3_3 ?_
  rintro _ _ _ ⟨⟨rfl, rfl⟩, rfl⟩
  show Wl p l e _ s m _ below meth c n0 _ (some ("com/example/escrow/escrow/TransactionState", 57, a2)) h1 2 20 (mkF m 6 #[.val (.ref s_COMMITTED), .val (.ref s_CREATED)] [(.ref s_CREATED)])
  refine Wl.st (g' := (mkF m 7 #[.val (.ref s_COMMITTED), .val (.ref s_CREATED)] [])) (fun X t q => XS.pop X.here C.hx rfl (hb C.hby d3_6) rfl rfl q) ?_
  refine Wl.st (g' := (mkF m 8 #[.val (.ref s_COMMITTED), .val (.ref s_CREATED)] [(.ref s_COMMITTED)])) (fun X t q => XS.aloadN X.here C.hx rfl (hb C.hby d3_7) rfl rfl q) ?_
  refine Wl.callU C (x := (⟨"com/example/escrow/escrow/TransactionState", "ordinal", "()I"⟩ : MethodName)) (z := (⟨"java/lang/Enum", "ordinal", "()I"⟩ : MethodName)) (K := "com/example/escrow/escrow/TransactionState") (owner := "java/lang/Enum") (hw _ (List.mem_of_getElem? (i := 34) rfl)) (hw _ (List.mem_of_getElem? (i := 35) rfl)) (hw _ (List.mem_of_getElem? (i := 36) rfl)) (hw _ (List.mem_of_getElem? (i := 38) rfl)) (hw _ (List.mem_of_getElem? (i := 37) rfl)) (hw _ (List.mem_of_getElem? (i := 39) rfl)) (hw _ (List.mem_of_getElem? (i := 40) rfl)) (by decide) (en_E_COMMITTED (EN.ext E3)) ((own_m5_16 l Z a0 hw n0 h1 s_CREATED s_PENDING s_COMMITTED s_FINISHED s_TERMINATING s_ROLLED_BACK (EN.ext E3) ).toL (some ("com/example/escrow/escrow/TransactionState", 57, a2))) (w := 0) (by decide) (by decide) pd_4 rfl (rest := []) rfl rfl (Nat.le_of_eq rfl) (by decide) (by decide) d3_8 ?_
  rintro _ _ _ ⟨⟨rfl, rfl⟩, rfl⟩
  show Wl p l e _ s m _ below meth c n0 _ (some ("com/example/escrow/escrow/TransactionState", 57, a2)) h1 2 20 (mkF m 11 #[.val (.ref s_COMMITTED), .val (.ref s_CREATED)] [(.int (2 : Int32))])
  refine Wl.st (g' := (mkF m 102 #[.val (.ref s_COMMITTED), .val (.ref s_CREATED)] [])) (fun X t q => XS.tswIn X.here C.hx rfl (pc0 := 11) (pc' := 102) rfl (hb C.hby d3_11) rfl (by decide) (o := 91) rfl (by decide) (by decide) q) ?_
  refine Wl.st (g' := (mkF m 103 #[.val (.ref s_COMMITTED), .val (.ref s_CREATED)] [(.ref s_CREATED)])) (fun X t q => XS.aloadN X.here C.hx rfl (hb C.hby d3_102) rfl rfl q) ?_
  refine Wl.getS C (hw _ (List.mem_of_getElem? (i := 13) rfl)) (en_S_FINISHED (EN.ext E3)) d3_103 ?_
  show Wl p l e _ s m _ below meth c n0 _ (some ("com/example/escrow/escrow/TransactionState", 57, a2)) h1 2 20 (mkF m 106 #[.val (.ref s_COMMITTED), .val (.ref s_CREATED)] [(.ref s_FINISHED), (.ref s_CREATED)])
  refine Wl.st (g' := (mkF m 113 #[.val (.ref s_COMMITTED), .val (.ref s_CREATED)] [])) (fun X t q => Jvm.RoadKit.acmp (g := (mkF m 106 #[.val (.ref s_COMMITTED), .val (.ref s_CREATED)] [(.ref s_FINISHED), (.ref s_CREATED)])) X C.hx rfl rfl rfl (pc0 := 106) (pc' := 113) (same := false) rfl (hb C.hby d3_106) rfl (decide_eq_false fun q => (ne_fld (en_O_CREATED_ordinal (EN.ext E3)) (en_O_FINISHED_ordinal (EN.ext E3)) (by decide)) (Value.ref.inj q)) (by decide) (by decide) q) ?_
  refine Wl.st (g' := (mkF m 114 #[.val (.ref s_COMMITTED), .val (.ref s_CREATED)] [(.int (0 : Int32))])) (fun X t q => XS.iconst X.here C.hx rfl (hb C.hby d3_113) q) ?_
  refine Wl.st (g' := (mkF m 133 #[.val (.ref s_COMMITTED), .val (.ref s_CREATED)] [(.int (0 : Int32))])) (fun X t q => XS.goto X.here C.hx rfl (pc0 := 114) (pc' := 133) rfl (hb C.hby d3_114) (by decide) (by decide) q) ?_
  exact Wl.retV C (t := .boolean) rfl rfl (Or.inl ⟨rfl, by simp, _, rfl⟩) d3_133 (by decide) (by decide) ⟨rfl, E3, a2, rfl⟩
set_option maxRecDepth 65536 in
set_option maxHeartbeats 40000000 in
theorem own_c18 (l : Launch) (Z : State) (a0 : Array Value) (hw : ∀ d ∈ tables_1, d.before a0 Z = true) (n0 : Nat) (h0 : Heap) (s_CREATED s_PENDING s_COMMITTED s_FINISHED s_TERMINATING s_ROLLED_BACK : Addr) (EN : Enm Z h0 s_CREATED s_PENDING s_COMMITTED s_FINISHED s_TERMINATING s_ROLLED_BACK) (z : Addr) :
    MetL l Z n0 (⟨"com/example/escrow/escrow/TransactionState", "canMoveTo", "(Lcom/example/escrow/escrow/TransactionState;)Z"⟩ : MethodName) prog_34_method_7_code 2 (some .boolean) ({ frames := 1, cells := 0, slots := 0, locals := 13 } : Room) #[(.ref s_COMMITTED), (.ref s_PENDING)] (some ("com/example/escrow/escrow/TransactionState", 57, z)) h0 (fun v h lt => v = some (.int (0 : Int32)) ∧ h0 = h ∧ lt = some ("com/example/escrow/escrow/TransactionState", 57, z)) := by
  refine MetL.of pn_1 #[.val (.ref s_COMMITTED), .val (.ref s_PENDING)] (fun m => by first | (simp [entryFrame, mkF, argsToLocals, Value.category]; done) | rfl) ?_
  intro p e s m below meth c C
  refine Wl.st (g' := (mkF m 1 #[.val (.ref s_COMMITTED), .val (.ref s_PENDING)] [(.ref s_PENDING)])) (fun X t q => XS.aloadN X.here C.hx rfl (hb C.hby d3_0) rfl rfl q) ?_
  refine Wl.ldcA C (hw _ (List.mem_of_getElem? (i := 22) rfl)) (a := z) d3_1 ?_
  show Wl p l e _ s m _ below meth c n0 _ (some ("com/example/escrow/escrow/TransactionState", 57, z)) h0 0 0 (mkF m 3 #[.val (.ref s_COMMITTED), .val (.ref s_PENDING)] [(.ref z), (.ref s_PENDING)])
  refine Wl.callS C (z := (⟨"java/util/Objects", "requireNonNull", "(Ljava/lang/Object;Ljava/lang/String;)Ljava/lang/Object;"⟩ : MethodName)) (hw _ (List.mem_of_getElem? (i := 30) rfl)) (hw _ (List.mem_of_getElem? (i := 31) rfl)) (hw _ (List.mem_of_getElem? (i := 32) rfl)) (hw _ (List.mem_of_getElem? (i := 33) rfl)) (by decide) ((own_m4_5 l Z a0 hw n0 h0 s_CREATED s_PENDING s_COMMITTED s_FINISHED s_TERMINATING s_ROLLED_BACK EN z).toL (some ("com/example/escrow/escrow/TransactionState", 57, z))) (w := 0) (by decide) (by decide) pd_3 rfl (rest := []) rfl rfl (Nat.le_of_eq rfl) (by decide) (by decide) d3_3 ?_
  rintro _ _ _ ⟨⟨rfl, rfl⟩, rfl⟩
  show Wl p l e _ s m _ below meth c n0 _ (some ("com/example/escrow/escrow/TransactionState", 57, z)) h0 0 0 (mkF m 6 #[.val (.ref s_COMMITTED), .val (.ref s_PENDING)] [(.ref s_PENDING)])
  refine Wl.st (g' := (mkF m 7 #[.val (.ref s_COMMITTED), .val (.ref s_PENDING)] [])) (fun X t q => XS.pop X.here C.hx rfl (hb C.hby d3_6) rfl rfl q) ?_
  refine Wl.st (g' := (mkF m 8 #[.val (.ref s_COMMITTED), .val (.ref s_PENDING)] [(.ref s_COMMITTED)])) (fun X t q => XS.aloadN X.here C.hx rfl (hb C.hby d3_7) rfl rfl q) ?_
  refine Wl.callU C (x := (⟨"com/example/escrow/escrow/TransactionState", "ordinal", "()I"⟩ : MethodName)) (z := (⟨"java/lang/Enum", "ordinal", "()I"⟩ : MethodName)) (K := "com/example/escrow/escrow/TransactionState") (owner := "java/lang/Enum") (hw _ (List.mem_of_getElem? (i := 34) rfl)) (hw _ (List.mem_of_getElem? (i := 35) rfl)) (hw _ (List.mem_of_getElem? (i := 36) rfl)) (hw _ (List.mem_of_getElem? (i := 38) rfl)) (hw _ (List.mem_of_getElem? (i := 37) rfl)) (hw _ (List.mem_of_getElem? (i := 39) rfl)) (hw _ (List.mem_of_getElem? (i := 40) rfl)) (by decide) (en_E_COMMITTED EN) ((own_m5_16 l Z a0 hw n0 h0 s_CREATED s_PENDING s_COMMITTED s_FINISHED s_TERMINATING s_ROLLED_BACK EN ).toL (some ("com/example/escrow/escrow/TransactionState", 57, z))) (w := 0) (by decide) (by decide) pd_4 rfl (rest := []) rfl rfl (Nat.le_of_eq rfl) (by decide) (by decide) d3_8 ?_
  rintro _ _ _ ⟨⟨rfl, rfl⟩, rfl⟩
  show Wl p l e _ s m _ below meth c n0 _ (some ("com/example/escrow/escrow/TransactionState", 57, z)) h0 0 0 (mkF m 11 #[.val (.ref s_COMMITTED), .val (.ref s_PENDING)] [(.int (2 : Int32))])
  refine Wl.st (g' := (mkF m 102 #[.val (.ref s_COMMITTED), .val (.ref s_PENDING)] [])) (fun X t q => XS.tswIn X.here C.hx rfl (pc0 := 11) (pc' := 102) rfl (hb C.hby d3_11) rfl (by decide) (o := 91) rfl (by decide) (by decide) q) ?_
  refine Wl.st (g' := (mkF m 103 #[.val (.ref s_COMMITTED), .val (.ref s_PENDING)] [(.ref s_PENDING)])) (fun X t q => XS.aloadN X.here C.hx rfl (hb C.hby d3_102) rfl rfl q) ?_
  refine Wl.getS C (hw _ (List.mem_of_getElem? (i := 13) rfl)) (en_S_FINISHED EN) d3_103 ?_
  show Wl p l e _ s m _ below meth c n0 _ (some ("com/example/escrow/escrow/TransactionState", 57, z)) h0 0 0 (mkF m 106 #[.val (.ref s_COMMITTED), .val (.ref s_PENDING)] [(.ref s_FINISHED), (.ref s_PENDING)])
  refine Wl.st (g' := (mkF m 113 #[.val (.ref s_COMMITTED), .val (.ref s_PENDING)] [])) (fun X t q => Jvm.RoadKit.acmp (g := (mkF m 106 #[.val (.ref s_COMMITTED), .val (.ref s_PENDING)] [(.ref s_FINISHED), (.ref s_PENDING)])) X C.hx rfl rfl rfl (pc0 := 106) (pc' := 113) (same := false) rfl (hb C.hby d3_106) rfl (decide_eq_false fun q => (ne_fld (en_O_PENDING_ordinal EN) (en_O_FINISHED_ordinal EN) (by decide)) (Value.ref.inj q)) (by decide) (by decide) q) ?_
  refine Wl.st (g' := (mkF m 114 #[.val (.ref s_COMMITTED), .val (.ref s_PENDING)] [(.int (0 : Int32))])) (fun X t q => XS.iconst X.here C.hx rfl (hb C.hby d3_113) q) ?_
  refine Wl.st (g' := (mkF m 133 #[.val (.ref s_COMMITTED), .val (.ref s_PENDING)] [(.int (0 : Int32))])) (fun X t q => XS.goto X.here C.hx rfl (pc0 := 114) (pc' := 133) rfl (hb C.hby d3_114) (by decide) (by decide) q) ?_
  exact Wl.retV C (t := .boolean) rfl rfl (Or.inl ⟨rfl, by simp, _, rfl⟩) d3_133 (by decide) (by decide) ⟨rfl, rfl, rfl⟩
set_option maxRecDepth 65536 in
set_option maxHeartbeats 40000000 in
theorem own_c19 (l : Launch) (Z : State) (a0 : Array Value) (hw : ∀ d ∈ tables_1, d.before a0 Z = true) (n0 : Nat) (h0 : Heap) (s_CREATED s_PENDING s_COMMITTED s_FINISHED s_TERMINATING s_ROLLED_BACK : Addr) (EN : Enm Z h0 s_CREATED s_PENDING s_COMMITTED s_FINISHED s_TERMINATING s_ROLLED_BACK) (z : Addr) :
    MetL l Z n0 (⟨"com/example/escrow/escrow/TransactionState", "canMoveTo", "(Lcom/example/escrow/escrow/TransactionState;)Z"⟩ : MethodName) prog_34_method_7_code 2 (some .boolean) ({ frames := 1, cells := 0, slots := 0, locals := 13 } : Room) #[(.ref s_COMMITTED), (.ref s_COMMITTED)] (some ("com/example/escrow/escrow/TransactionState", 57, z)) h0 (fun v h lt => v = some (.int (0 : Int32)) ∧ h0 = h ∧ lt = some ("com/example/escrow/escrow/TransactionState", 57, z)) := by
  refine MetL.of pn_1 #[.val (.ref s_COMMITTED), .val (.ref s_COMMITTED)] (fun m => by first | (simp [entryFrame, mkF, argsToLocals, Value.category]; done) | rfl) ?_
  intro p e s m below meth c C
  refine Wl.st (g' := (mkF m 1 #[.val (.ref s_COMMITTED), .val (.ref s_COMMITTED)] [(.ref s_COMMITTED)])) (fun X t q => XS.aloadN X.here C.hx rfl (hb C.hby d3_0) rfl rfl q) ?_
  refine Wl.ldcA C (hw _ (List.mem_of_getElem? (i := 22) rfl)) (a := z) d3_1 ?_
  show Wl p l e _ s m _ below meth c n0 _ (some ("com/example/escrow/escrow/TransactionState", 57, z)) h0 0 0 (mkF m 3 #[.val (.ref s_COMMITTED), .val (.ref s_COMMITTED)] [(.ref z), (.ref s_COMMITTED)])
  refine Wl.callS C (z := (⟨"java/util/Objects", "requireNonNull", "(Ljava/lang/Object;Ljava/lang/String;)Ljava/lang/Object;"⟩ : MethodName)) (hw _ (List.mem_of_getElem? (i := 30) rfl)) (hw _ (List.mem_of_getElem? (i := 31) rfl)) (hw _ (List.mem_of_getElem? (i := 32) rfl)) (hw _ (List.mem_of_getElem? (i := 33) rfl)) (by decide) ((own_m4_12 l Z a0 hw n0 h0 s_CREATED s_PENDING s_COMMITTED s_FINISHED s_TERMINATING s_ROLLED_BACK EN z).toL (some ("com/example/escrow/escrow/TransactionState", 57, z))) (w := 0) (by decide) (by decide) pd_3 rfl (rest := []) rfl rfl (Nat.le_of_eq rfl) (by decide) (by decide) d3_3 ?_
  rintro _ _ _ ⟨⟨rfl, rfl⟩, rfl⟩
  show Wl p l e _ s m _ below meth c n0 _ (some ("com/example/escrow/escrow/TransactionState", 57, z)) h0 0 0 (mkF m 6 #[.val (.ref s_COMMITTED), .val (.ref s_COMMITTED)] [(.ref s_COMMITTED)])
  refine Wl.st (g' := (mkF m 7 #[.val (.ref s_COMMITTED), .val (.ref s_COMMITTED)] [])) (fun X t q => XS.pop X.here C.hx rfl (hb C.hby d3_6) rfl rfl q) ?_
  refine Wl.st (g' := (mkF m 8 #[.val (.ref s_COMMITTED), .val (.ref s_COMMITTED)] [(.ref s_COMMITTED)])) (fun X t q => XS.aloadN X.here C.hx rfl (hb C.hby d3_7) rfl rfl q) ?_
  refine Wl.callU C (x := (⟨"com/example/escrow/escrow/TransactionState", "ordinal", "()I"⟩ : MethodName)) (z := (⟨"java/lang/Enum", "ordinal", "()I"⟩ : MethodName)) (K := "com/example/escrow/escrow/TransactionState") (owner := "java/lang/Enum") (hw _ (List.mem_of_getElem? (i := 34) rfl)) (hw _ (List.mem_of_getElem? (i := 35) rfl)) (hw _ (List.mem_of_getElem? (i := 36) rfl)) (hw _ (List.mem_of_getElem? (i := 38) rfl)) (hw _ (List.mem_of_getElem? (i := 37) rfl)) (hw _ (List.mem_of_getElem? (i := 39) rfl)) (hw _ (List.mem_of_getElem? (i := 40) rfl)) (by decide) (en_E_COMMITTED EN) ((own_m5_16 l Z a0 hw n0 h0 s_CREATED s_PENDING s_COMMITTED s_FINISHED s_TERMINATING s_ROLLED_BACK EN ).toL (some ("com/example/escrow/escrow/TransactionState", 57, z))) (w := 0) (by decide) (by decide) pd_4 rfl (rest := []) rfl rfl (Nat.le_of_eq rfl) (by decide) (by decide) d3_8 ?_
  rintro _ _ _ ⟨⟨rfl, rfl⟩, rfl⟩
  show Wl p l e _ s m _ below meth c n0 _ (some ("com/example/escrow/escrow/TransactionState", 57, z)) h0 0 0 (mkF m 11 #[.val (.ref s_COMMITTED), .val (.ref s_COMMITTED)] [(.int (2 : Int32))])
  refine Wl.st (g' := (mkF m 102 #[.val (.ref s_COMMITTED), .val (.ref s_COMMITTED)] [])) (fun X t q => XS.tswIn X.here C.hx rfl (pc0 := 11) (pc' := 102) rfl (hb C.hby d3_11) rfl (by decide) (o := 91) rfl (by decide) (by decide) q) ?_
  refine Wl.st (g' := (mkF m 103 #[.val (.ref s_COMMITTED), .val (.ref s_COMMITTED)] [(.ref s_COMMITTED)])) (fun X t q => XS.aloadN X.here C.hx rfl (hb C.hby d3_102) rfl rfl q) ?_
  refine Wl.getS C (hw _ (List.mem_of_getElem? (i := 13) rfl)) (en_S_FINISHED EN) d3_103 ?_
  show Wl p l e _ s m _ below meth c n0 _ (some ("com/example/escrow/escrow/TransactionState", 57, z)) h0 0 0 (mkF m 106 #[.val (.ref s_COMMITTED), .val (.ref s_COMMITTED)] [(.ref s_FINISHED), (.ref s_COMMITTED)])
  refine Wl.st (g' := (mkF m 113 #[.val (.ref s_COMMITTED), .val (.ref s_COMMITTED)] [])) (fun X t q => Jvm.RoadKit.acmp (g := (mkF m 106 #[.val (.ref s_COMMITTED), .val (.ref s_COMMITTED)] [(.ref s_FINISHED), (.ref s_COMMITTED)])) X C.hx rfl rfl rfl (pc0 := 106) (pc' := 113) (same := false) rfl (hb C.hby d3_106) rfl (decide_eq_false fun q => (ne_fld (en_O_COMMITTED_ordinal EN) (en_O_FINISHED_ordinal EN) (by decide)) (Value.ref.inj q)) (by decide) (by decide) q) ?_
  refine Wl.st (g' := (mkF m 114 #[.val (.ref s_COMMITTED), .val (.ref s_COMMITTED)] [(.int (0 : Int32))])) (fun X t q => XS.iconst X.here C.hx rfl (hb C.hby d3_113) q) ?_
  refine Wl.st (g' := (mkF m 133 #[.val (.ref s_COMMITTED), .val (.ref s_COMMITTED)] [(.int (0 : Int32))])) (fun X t q => XS.goto X.here C.hx rfl (pc0 := 114) (pc' := 133) rfl (hb C.hby d3_114) (by decide) (by decide) q) ?_
  exact Wl.retV C (t := .boolean) rfl rfl (Or.inl ⟨rfl, by simp, _, rfl⟩) d3_133 (by decide) (by decide) ⟨rfl, rfl, rfl⟩
set_option maxRecDepth 65536 in
set_option maxHeartbeats 40000000 in
theorem own_m4_20 (l : Launch) (Z : State) (a0 : Array Value) (hw : ∀ d ∈ tables_1, d.before a0 Z = true) (n0 : Nat) (h0 : Heap) (s_CREATED s_PENDING s_COMMITTED s_FINISHED s_TERMINATING s_ROLLED_BACK : Addr) (EN : Enm Z h0 s_CREATED s_PENDING s_COMMITTED s_FINISHED s_TERMINATING s_ROLLED_BACK) (z0 : Addr) :
    Met true l Z n0 (⟨"java/util/Objects", "requireNonNull", "(Ljava/lang/Object;Ljava/lang/String;)Ljava/lang/Object;"⟩ : MethodName) jdk_31_method_11_code 2 (some (.object "java/lang/Object")) ({ frames := 0, cells := 0, slots := 0, locals := 0 } : Room) #[(.ref s_FINISHED), (.ref z0)] h0 (fun v h => v = some (.ref s_FINISHED) ∧ h0 = h) := by
  refine Met.of pn_2 #[.val (.ref s_FINISHED), .val (.ref z0)] (fun m => by first | (simp [entryFrame, mkF, argsToLocals, Value.category]; done) | rfl) ?_
  intro p e s m below meth c C
  refine Wk.st (g' := (mkF m 1 #[.val (.ref s_FINISHED), .val (.ref z0)] [(.ref s_FINISHED)])) (fun X t q => XS.aloadN X.here C.hx rfl (hb C.hby d4_0) rfl rfl q) ?_
  refine Wk.st (g' := (mkF m 13 #[.val (.ref s_FINISHED), .val (.ref z0)] [])) (fun X t q => XS.ifnonnullYes X.here C.hx rfl (pc0 := 1) (pc' := 13) rfl (hb C.hby d4_1) rfl (by decide) (by decide) q) ?_
  refine Wk.st (g' := (mkF m 14 #[.val (.ref s_FINISHED), .val (.ref z0)] [(.ref s_FINISHED)])) (fun X t q => XS.aloadN X.here C.hx rfl (hb C.hby d4_13) rfl rfl q) ?_
  exact Wk.retV C (t := (.object "java/lang/Object")) rfl rfl (Or.inr (Or.inr (Or.inr (Or.inr ⟨rfl, rfl, rfl⟩)))) d4_14 (by decide) (by decide) ⟨rfl, rfl⟩
set_option maxRecDepth 65536 in
set_option maxHeartbeats 40000000 in
theorem own_c20 (l : Launch) (Z : State) (a0 : Array Value) (hw : ∀ d ∈ tables_1, d.before a0 Z = true) (n0 : Nat) (h0 : Heap) (s_CREATED s_PENDING s_COMMITTED s_FINISHED s_TERMINATING s_ROLLED_BACK : Addr) (EN : Enm Z h0 s_CREATED s_PENDING s_COMMITTED s_FINISHED s_TERMINATING s_ROLLED_BACK) (z : Addr) :
    MetL l Z n0 (⟨"com/example/escrow/escrow/TransactionState", "canMoveTo", "(Lcom/example/escrow/escrow/TransactionState;)Z"⟩ : MethodName) prog_34_method_7_code 2 (some .boolean) ({ frames := 1, cells := 0, slots := 0, locals := 13 } : Room) #[(.ref s_COMMITTED), (.ref s_FINISHED)] (some ("com/example/escrow/escrow/TransactionState", 57, z)) h0 (fun v h lt => v = some (.int (1 : Int32)) ∧ h0 = h ∧ lt = some ("com/example/escrow/escrow/TransactionState", 57, z)) := by
  refine MetL.of pn_1 #[.val (.ref s_COMMITTED), .val (.ref s_FINISHED)] (fun m => by first | (simp [entryFrame, mkF, argsToLocals, Value.category]; done) | rfl) ?_
  intro p e s m below meth c C
  refine Wl.st (g' := (mkF m 1 #[.val (.ref s_COMMITTED), .val (.ref s_FINISHED)] [(.ref s_FINISHED)])) (fun X t q => XS.aloadN X.here C.hx rfl (hb C.hby d3_0) rfl rfl q) ?_
  refine Wl.ldcA C (hw _ (List.mem_of_getElem? (i := 22) rfl)) (a := z) d3_1 ?_
  show Wl p l e _ s m _ below meth c n0 _ (some ("com/example/escrow/escrow/TransactionState", 57, z)) h0 0 0 (mkF m 3 #[.val (.ref s_COMMITTED), .val (.ref s_FINISHED)] [(.ref z), (.ref s_FINISHED)])
  refine Wl.callS C (z := (⟨"java/util/Objects", "requireNonNull", "(Ljava/lang/Object;Ljava/lang/String;)Ljava/lang/Object;"⟩ : MethodName)) (hw _ (List.mem_of_getElem? (i := 30) rfl)) (hw _ (List.mem_of_getElem? (i := 31) rfl)) (hw _ (List.mem_of_getElem? (i := 32) rfl)) (hw _ (List.mem_of_getElem? (i := 33) rfl)) (by decide) ((own_m4_20 l Z a0 hw n0 h0 s_CREATED s_PENDING s_COMMITTED s_FINISHED s_TERMINATING s_ROLLED_BACK EN z).toL (some ("com/example/escrow/escrow/TransactionState", 57, z))) (w := 0) (by decide) (by decide) pd_3 rfl (rest := []) rfl rfl (Nat.le_of_eq rfl) (by decide) (by decide) d3_3 ?_
  rintro _ _ _ ⟨⟨rfl, rfl⟩, rfl⟩
  show Wl p l e _ s m _ below meth c n0 _ (some ("com/example/escrow/escrow/TransactionState", 57, z)) h0 0 0 (mkF m 6 #[.val (.ref s_COMMITTED), .val (.ref s_FINISHED)] [(.ref s_FINISHED)])
  refine Wl.st (g' := (mkF m 7 #[.val (.ref s_COMMITTED), .val (.ref s_FINISHED)] [])) (fun X t q => XS.pop X.here C.hx rfl (hb C.hby d3_6) rfl rfl q) ?_
  refine Wl.st (g' := (mkF m 8 #[.val (.ref s_COMMITTED), .val (.ref s_FINISHED)] [(.ref s_COMMITTED)])) (fun X t q => XS.aloadN X.here C.hx rfl (hb C.hby d3_7) rfl rfl q) ?_
  refine Wl.callU C (x := (⟨"com/example/escrow/escrow/TransactionState", "ordinal", "()I"⟩ : MethodName)) (z := (⟨"java/lang/Enum", "ordinal", "()I"⟩ : MethodName)) (K := "com/example/escrow/escrow/TransactionState") (owner := "java/lang/Enum") (hw _ (List.mem_of_getElem? (i := 34) rfl)) (hw _ (List.mem_of_getElem? (i := 35) rfl)) (hw _ (List.mem_of_getElem? (i := 36) rfl)) (hw _ (List.mem_of_getElem? (i := 38) rfl)) (hw _ (List.mem_of_getElem? (i := 37) rfl)) (hw _ (List.mem_of_getElem? (i := 39) rfl)) (hw _ (List.mem_of_getElem? (i := 40) rfl)) (by decide) (en_E_COMMITTED EN) ((own_m5_16 l Z a0 hw n0 h0 s_CREATED s_PENDING s_COMMITTED s_FINISHED s_TERMINATING s_ROLLED_BACK EN ).toL (some ("com/example/escrow/escrow/TransactionState", 57, z))) (w := 0) (by decide) (by decide) pd_4 rfl (rest := []) rfl rfl (Nat.le_of_eq rfl) (by decide) (by decide) d3_8 ?_
  rintro _ _ _ ⟨⟨rfl, rfl⟩, rfl⟩
  show Wl p l e _ s m _ below meth c n0 _ (some ("com/example/escrow/escrow/TransactionState", 57, z)) h0 0 0 (mkF m 11 #[.val (.ref s_COMMITTED), .val (.ref s_FINISHED)] [(.int (2 : Int32))])
  refine Wl.st (g' := (mkF m 102 #[.val (.ref s_COMMITTED), .val (.ref s_FINISHED)] [])) (fun X t q => XS.tswIn X.here C.hx rfl (pc0 := 11) (pc' := 102) rfl (hb C.hby d3_11) rfl (by decide) (o := 91) rfl (by decide) (by decide) q) ?_
  refine Wl.st (g' := (mkF m 103 #[.val (.ref s_COMMITTED), .val (.ref s_FINISHED)] [(.ref s_FINISHED)])) (fun X t q => XS.aloadN X.here C.hx rfl (hb C.hby d3_102) rfl rfl q) ?_
  refine Wl.getS C (hw _ (List.mem_of_getElem? (i := 13) rfl)) (en_S_FINISHED EN) d3_103 ?_
  show Wl p l e _ s m _ below meth c n0 _ (some ("com/example/escrow/escrow/TransactionState", 57, z)) h0 0 0 (mkF m 106 #[.val (.ref s_COMMITTED), .val (.ref s_FINISHED)] [(.ref s_FINISHED), (.ref s_FINISHED)])
  refine Wl.st (g' := (mkF m 109 #[.val (.ref s_COMMITTED), .val (.ref s_FINISHED)] [])) (fun X t q => Jvm.RoadKit.acmp (g := (mkF m 106 #[.val (.ref s_COMMITTED), .val (.ref s_FINISHED)] [(.ref s_FINISHED), (.ref s_FINISHED)])) X C.hx rfl rfl rfl (pc0 := 106) (pc' := 109) (same := true) rfl (hb C.hby d3_106) rfl (decide_eq_true (congrArg Value.ref rfl)) (by decide) (by decide) q) ?_
  refine Wl.st (g' := (mkF m 110 #[.val (.ref s_COMMITTED), .val (.ref s_FINISHED)] [(.int (1 : Int32))])) (fun X t q => XS.iconst X.here C.hx rfl (hb C.hby d3_109) q) ?_
  refine Wl.st (g' := (mkF m 133 #[.val (.ref s_COMMITTED), .val (.ref s_FINISHED)] [(.int (1 : Int32))])) (fun X t q => XS.goto X.here C.hx rfl (pc0 := 110) (pc' := 133) rfl (hb C.hby d3_110) (by decide) (by decide) q) ?_
  exact Wl.retV C (t := .boolean) rfl rfl (Or.inl ⟨rfl, by simp, _, rfl⟩) d3_133 (by decide) (by decide) ⟨rfl, rfl, rfl⟩
set_option maxRecDepth 65536 in
set_option maxHeartbeats 40000000 in
theorem own_m1_22 (l : Launch) (Z : State) (a0 : Array Value) (hw : ∀ d ∈ tables_1, d.before a0 Z = true) (n0 : Nat) (h0 : Heap) (s_CREATED s_PENDING s_COMMITTED s_FINISHED s_TERMINATING s_ROLLED_BACK : Addr) (EN : Enm Z h0 s_CREATED s_PENDING s_COMMITTED s_FINISHED s_TERMINATING s_ROLLED_BACK) :
    Met true l Z n0 (⟨"com/example/escrow/escrow/TransactionStateIsEndedPinLaw", "pick", "(I)Lcom/example/escrow/escrow/TransactionState;"⟩ : MethodName) method_2_code 1 (some (.object "com/example/escrow/escrow/TransactionState")) ({ frames := 0, cells := 0, slots := 0, locals := 0 } : Room) #[(.int (3 : Int32))] h0 (fun v h => v = some (.ref s_FINISHED) ∧ h0 = h) := by
  refine Met.of pn_0 #[.val (.int (3 : Int32))] (fun m => by first | (simp [entryFrame, mkF, argsToLocals, Value.category]; done) | rfl) ?_
  intro p e s m below meth c C
  refine Wk.st (g' := (mkF m 1 #[.val (.int (3 : Int32))] [(.int (3 : Int32))])) (fun X t q => XS.iloadN X.here C.hx rfl (hb C.hby d1_0) rfl q) ?_
  refine Wk.st (g' := (mkF m 8 #[.val (.int (3 : Int32))] [])) (fun X t q => XS.ifYes X.here C.hx rfl (pc0 := 1) (pc' := 8) rfl (hb C.hby d1_1) rfl (XT.i0_ne_t (by decide)) (by decide) (by decide) q) ?_
  refine Wk.st (g' := (mkF m 9 #[.val (.int (3 : Int32))] [(.int (3 : Int32))])) (fun X t q => XS.iloadN X.here C.hx rfl (hb C.hby d1_8) rfl q) ?_
  refine Wk.st (g' := (mkF m 10 #[.val (.int (3 : Int32))] [(.int (1 : Int32)), (.int (3 : Int32))])) (fun X t q => XS.iconst X.here C.hx rfl (hb C.hby d1_9) q) ?_
  refine Wk.st (g' := (mkF m 17 #[.val (.int (3 : Int32))] [])) (fun X t q => XS.icmpYes X.here C.hx rfl (pc0 := 10) (pc' := 17) rfl (hb C.hby d1_10) rfl (XT.ii_ne_t (by decide)) (by decide) (by decide) q) ?_
  refine Wk.st (g' := (mkF m 18 #[.val (.int (3 : Int32))] [(.int (3 : Int32))])) (fun X t q => XS.iloadN X.here C.hx rfl (hb C.hby d1_17) rfl q) ?_
  refine Wk.st (g' := (mkF m 19 #[.val (.int (3 : Int32))] [(.int (2 : Int32)), (.int (3 : Int32))])) (fun X t q => XS.iconst X.here C.hx rfl (hb C.hby d1_18) q) ?_
  refine Wk.st (g' := (mkF m 26 #[.val (.int (3 : Int32))] [])) (fun X t q => XS.icmpYes X.here C.hx rfl (pc0 := 19) (pc' := 26) rfl (hb C.hby d1_19) rfl (XT.ii_ne_t (by decide)) (by decide) (by decide) q) ?_
  refine Wk.st (g' := (mkF m 27 #[.val (.int (3 : Int32))] [(.int (3 : Int32))])) (fun X t q => XS.iloadN X.here C.hx rfl (hb C.hby d1_26) rfl q) ?_
  refine Wk.st (g' := (mkF m 28 #[.val (.int (3 : Int32))] [(.int (3 : Int32)), (.int (3 : Int32))])) (fun X t q => XS.iconst X.here C.hx rfl (hb C.hby d1_27) q) ?_
  refine Wk.st (g' := (mkF m 31 #[.val (.int (3 : Int32))] [])) (fun X t q => XS.icmpNo X.here C.hx rfl (hb C.hby d1_28) rfl (XT.ii_ne_f (by decide)) q) ?_
  refine Wk.getS C (hw _ (List.mem_of_getElem? (i := 48) rfl)) (en_S_FINISHED EN) d1_31 ?_
  show Wk _ p l e _ s m _ below meth c n0 _ h0 0 0 (mkF m 34 #[.val (.int (3 : Int32))] [(.ref s_FINISHED)])
  exact Wk.retV C (t := (.object "com/example/escrow/escrow/TransactionState")) rfl rfl (Or.inr (Or.inr (Or.inr (Or.inr ⟨rfl, rfl, rfl⟩)))) d1_34 (by decide) (by decide) ⟨rfl, rfl⟩
set_option maxRecDepth 65536 in
set_option maxHeartbeats 40000000 in
theorem own_m2_23 (l : Launch) (Z : State) (a0 : Array Value) (hw : ∀ d ∈ tables_1, d.before a0 Z = true) (n0 : Nat) (h0 : Heap) (s_CREATED s_PENDING s_COMMITTED s_FINISHED s_TERMINATING s_ROLLED_BACK : Addr) (EN : Enm Z h0 s_CREATED s_PENDING s_COMMITTED s_FINISHED s_TERMINATING s_ROLLED_BACK) :
    Met true l Z n0 (⟨"com/example/escrow/escrow/TransactionState", "isEnded", "()Z"⟩ : MethodName) prog_34_method_6_code 1 (some .boolean) ({ frames := 0, cells := 0, slots := 0, locals := 0 } : Room) #[(.ref s_FINISHED)] h0 (fun v h => v = some (.int (1 : Int32)) ∧ h0 = h) := by
  refine Met.of pn_1 #[.val (.ref s_FINISHED)] (fun m => by first | (simp [entryFrame, mkF, argsToLocals, Value.category]; done) | rfl) ?_
  intro p e s m below meth c C
  refine Wk.st (g' := (mkF m 1 #[.val (.ref s_FINISHED)] [(.ref s_FINISHED)])) (fun X t q => XS.aloadN X.here C.hx rfl (hb C.hby d2_0) rfl rfl q) ?_
  refine Wk.getS C (hw _ (List.mem_of_getElem? (i := 13) rfl)) (en_S_FINISHED EN) d2_1 ?_
  show Wk _ p l e _ s m _ below meth c n0 _ h0 0 0 (mkF m 4 #[.val (.ref s_FINISHED)] [(.ref s_FINISHED), (.ref s_FINISHED)])
  refine Wk.st (g' := (mkF m 14 #[.val (.ref s_FINISHED)] [])) (fun X t q => Jvm.RoadKit.acmp (g := (mkF m 4 #[.val (.ref s_FINISHED)] [(.ref s_FINISHED), (.ref s_FINISHED)])) X C.hx rfl rfl rfl (pc0 := 4) (pc' := 14) (same := true) rfl (hb C.hby d2_4) rfl (decide_eq_true (congrArg Value.ref rfl)) (by decide) (by decide) q) ?_
  refine Wk.st (g' := (mkF m 15 #[.val (.ref s_FINISHED)] [(.int (1 : Int32))])) (fun X t q => XS.iconst X.here C.hx rfl (hb C.hby d2_14) q) ?_
  refine Wk.st (g' := (mkF m 19 #[.val (.ref s_FINISHED)] [(.int (1 : Int32))])) (fun X t q => XS.goto X.here C.hx rfl (pc0 := 15) (pc' := 19) rfl (hb C.hby d2_15) (by decide) (by decide) q) ?_
  exact Wk.retV C (t := .boolean) rfl rfl (Or.inl ⟨rfl, by simp, _, rfl⟩) d2_19 (by decide) (by decide) ⟨rfl, rfl⟩
set_option maxRecDepth 65536 in
set_option maxHeartbeats 40000000 in
theorem own_m5_24 (l : Launch) (Z : State) (a0 : Array Value) (hw : ∀ d ∈ tables_1, d.before a0 Z = true) (n0 : Nat) (h0 : Heap) (s_CREATED s_PENDING s_COMMITTED s_FINISHED s_TERMINATING s_ROLLED_BACK : Addr) (EN : Enm Z h0 s_CREATED s_PENDING s_COMMITTED s_FINISHED s_TERMINATING s_ROLLED_BACK) :
    Met true l Z n0 (⟨"java/lang/Enum", "ordinal", "()I"⟩ : MethodName) jdk_37_method_2_code 1 (some .int) ({ frames := 0, cells := 0, slots := 0, locals := 0 } : Room) #[(.ref s_FINISHED)] h0 (fun v h => v = some (.int (3 : Int32)) ∧ h0 = h) := by
  refine Met.of pn_3 #[.val (.ref s_FINISHED)] (fun m => by first | (simp [entryFrame, mkF, argsToLocals, Value.category]; done) | rfl) ?_
  intro p e s m below meth c C
  refine Wk.st (g' := (mkF m 1 #[.val (.ref s_FINISHED)] [(.ref s_FINISHED)])) (fun X t q => XS.aloadN X.here C.hx rfl (hb C.hby d5_0) rfl rfl q) ?_
  refine Wk.getF C (hw _ (List.mem_of_getElem? (i := 41) rfl)) Via.refl (en_O_FINISHED_ordinal EN) d5_1 ?_
  show Wk _ p l e _ s m _ below meth c n0 _ h0 0 0 (mkF m 4 #[.val (.ref s_FINISHED)] [(.int (3 : Int32))])
  exact Wk.retV C (t := .int) rfl rfl (Or.inl ⟨rfl, by simp, _, rfl⟩) d5_4 (by decide) (by decide) ⟨rfl, rfl⟩
set_option maxRecDepth 65536 in
set_option maxHeartbeats 40000000 in
theorem own_c24 (l : Launch) (Z : State) (a0 : Array Value) (hw : ∀ d ∈ tables_1, d.before a0 Z = true) (n0 : Nat) (h0 : Heap) (s_CREATED s_PENDING s_COMMITTED s_FINISHED s_TERMINATING s_ROLLED_BACK : Addr) (EN : Enm Z h0 s_CREATED s_PENDING s_COMMITTED s_FINISHED s_TERMINATING s_ROLLED_BACK) :
    MetL l Z n0 (⟨"com/example/escrow/escrow/TransactionState", "canMoveTo", "(Lcom/example/escrow/escrow/TransactionState;)Z"⟩ : MethodName) prog_34_method_7_code 2 (some .boolean) ({ frames := 1, cells := 2, slots := 20, locals := 13 } : Room) #[(.ref s_FINISHED), (.ref s_CREATED)] none h0 (fun v h lt => v = some (.int (0 : Int32)) ∧ Ext h0 h ∧ ∃ a, lt = some ("com/example/escrow/escrow/TransactionState", 57, a)) := by
  refine MetL.of pn_1 #[.val (.ref s_FINISHED), .val (.ref s_CREATED)] (fun m => by first | (simp [entryFrame, mkF, argsToLocals, Value.category]; done) | rfl) ?_
  intro p e s m below meth c C
  refine Wl.st (g' := (mkF m 1 #[.val (.ref s_FINISHED), .val (.ref s_CREATED)] [(.ref s_CREATED)])) (fun X t q => XS.aloadN X.here C.hx rfl (hb C.hby d3_0) rfl rfl q) ?_
  refine Wl.ldcS C (hw _ (List.mem_of_getElem? (i := 22) rfl)) (own_wS hw) (N := 16) (by decide) (by decide) d3_1 (by decide) (by decide) ?_
  intro h1 a2 E3
  show Wl p l e _ s m _ below meth c n0 _ (some ("com/example/escrow/escrow/TransactionState", 57, a2)) h1 2 20 (mkF m 3 #[.val (.ref s_FINISHED), .val (.ref s_CREATED)] [(.ref a2), (.ref s_CREATED)])
  refine Wl.callS C (z := (⟨"java/util/Objects", "requireNonNull", "(Ljava/lang/Object;Ljava/lang/String;)Ljava/lang/Object;"⟩ : MethodName)) (hw _ (List.mem_of_getElem? (i := 30) rfl)) (hw _ (List.mem_of_getElem? (i := 31) rfl)) (hw _ (List.mem_of_getElem? (i := 32) rfl)) (hw _ (List.mem_of_getElem? (i := 33) rfl)) (by decide) ((own_m4_2 l Z a0 hw n0 h1 s_CREATED s_PENDING s_COMMITTED s_FINISHED s_TERMINATING s_ROLLED_BACK (EN.ext E3) a2).toL (some ("com/example/escrow/escrow/TransactionState", 57, a2))) (w := 0) (by decide) (by decide) pd_3 rfl (rest := []) rfl rfl (Nat.le_of_eq rfl) (by decide) (by decide) d3_3 ?_
  rintro _ _ _ ⟨⟨rfl, rfl⟩, rfl⟩
  show Wl p l e _ s m _ below meth c n0 _ (some ("com/example/escrow/escrow/TransactionState", 57, a2)) h1 2 20 (mkF m 6 #[.val (.ref s_FINISHED), .val (.ref s_CREATED)] [(.ref s_CREATED)])
  refine Wl.st (g' := (mkF m 7 #[.val (.ref s_FINISHED), .val (.ref s_CREATED)] [])) (fun X t q => XS.pop X.here C.hx rfl (hb C.hby d3_6) rfl rfl q) ?_
  refine Wl.st (g' := (mkF m 8 #[.val (.ref s_FINISHED), .val (.ref s_CREATED)] [(.ref s_FINISHED)])) (fun X t q => XS.aloadN X.here C.hx rfl (hb C.hby d3_7) rfl rfl q) ?_
  refine Wl.callU C (x := (⟨"com/example/escrow/escrow/TransactionState", "ordinal", "()I"⟩ : MethodName)) (z := (⟨"java/lang/Enum", "ordinal", "()I"⟩ : MethodName)) (K := "com/example/escrow/escrow/TransactionState") (owner := "java/lang/Enum") (hw _ (List.mem_of_getElem? (i := 34) rfl)) (hw _ (List.mem_of_getElem? (i := 35) rfl)) (hw _ (List.mem_of_getElem? (i := 36) rfl)) (hw _ (List.mem_of_getElem? (i := 38) rfl)) (hw _ (List.mem_of_getElem? (i := 37) rfl)) (hw _ (List.mem_of_getElem? (i := 39) rfl)) (hw _ (List.mem_of_getElem? (i := 40) rfl)) (by decide) (en_E_FINISHED (EN.ext E3)) ((own_m5_24 l Z a0 hw n0 h1 s_CREATED s_PENDING s_COMMITTED s_FINISHED s_TERMINATING s_ROLLED_BACK (EN.ext E3) ).toL (some ("com/example/escrow/escrow/TransactionState", 57, a2))) (w := 0) (by decide) (by decide) pd_4 rfl (rest := []) rfl rfl (Nat.le_of_eq rfl) (by decide) (by decide) d3_8 ?_
  rintro _ _ _ ⟨⟨rfl, rfl⟩, rfl⟩
  show Wl p l e _ s m _ below meth c n0 _ (some ("com/example/escrow/escrow/TransactionState", 57, a2)) h1 2 20 (mkF m 11 #[.val (.ref s_FINISHED), .val (.ref s_CREATED)] [(.int (3 : Int32))])
  refine Wl.st (g' := (mkF m 132 #[.val (.ref s_FINISHED), .val (.ref s_CREATED)] [])) (fun X t q => XS.tswIn X.here C.hx rfl (pc0 := 11) (pc' := 132) rfl (hb C.hby d3_11) rfl (by decide) (o := 121) rfl (by decide) (by decide) q) ?_
  refine Wl.st (g' := (mkF m 133 #[.val (.ref s_FINISHED), .val (.ref s_CREATED)] [(.int (0 : Int32))])) (fun X t q => XS.iconst X.here C.hx rfl (hb C.hby d3_132) q) ?_
  exact Wl.retV C (t := .boolean) rfl rfl (Or.inl ⟨rfl, by simp, _, rfl⟩) d3_133 (by decide) (by decide) ⟨rfl, E3, a2, rfl⟩
set_option maxRecDepth 65536 in
set_option maxHeartbeats 40000000 in
theorem own_c26 (l : Launch) (Z : State) (a0 : Array Value) (hw : ∀ d ∈ tables_1, d.before a0 Z = true) (n0 : Nat) (h0 : Heap) (s_CREATED s_PENDING s_COMMITTED s_FINISHED s_TERMINATING s_ROLLED_BACK : Addr) (EN : Enm Z h0 s_CREATED s_PENDING s_COMMITTED s_FINISHED s_TERMINATING s_ROLLED_BACK) (z : Addr) :
    MetL l Z n0 (⟨"com/example/escrow/escrow/TransactionState", "canMoveTo", "(Lcom/example/escrow/escrow/TransactionState;)Z"⟩ : MethodName) prog_34_method_7_code 2 (some .boolean) ({ frames := 1, cells := 0, slots := 0, locals := 13 } : Room) #[(.ref s_FINISHED), (.ref s_PENDING)] (some ("com/example/escrow/escrow/TransactionState", 57, z)) h0 (fun v h lt => v = some (.int (0 : Int32)) ∧ h0 = h ∧ lt = some ("com/example/escrow/escrow/TransactionState", 57, z)) := by
  refine MetL.of pn_1 #[.val (.ref s_FINISHED), .val (.ref s_PENDING)] (fun m => by first | (simp [entryFrame, mkF, argsToLocals, Value.category]; done) | rfl) ?_
  intro p e s m below meth c C
  refine Wl.st (g' := (mkF m 1 #[.val (.ref s_FINISHED), .val (.ref s_PENDING)] [(.ref s_PENDING)])) (fun X t q => XS.aloadN X.here C.hx rfl (hb C.hby d3_0) rfl rfl q) ?_
  refine Wl.ldcA C (hw _ (List.mem_of_getElem? (i := 22) rfl)) (a := z) d3_1 ?_
  show Wl p l e _ s m _ below meth c n0 _ (some ("com/example/escrow/escrow/TransactionState", 57, z)) h0 0 0 (mkF m 3 #[.val (.ref s_FINISHED), .val (.ref s_PENDING)] [(.ref z), (.ref s_PENDING)])
  refine Wl.callS C (z := (⟨"java/util/Objects", "requireNonNull", "(Ljava/lang/Object;Ljava/lang/String;)Ljava/lang/Object;"⟩ : MethodName)) (hw _ (List.mem_of_getElem? (i := 30) rfl)) (hw _ (List.mem_of_getElem? (i := 31) rfl)) (hw _ (List.mem_of_getElem? (i := 32) rfl)) (hw _ (List.mem_of_getElem? (i := 33) rfl)) (by decide) ((own_m4_5 l Z a0 hw n0 h0 s_CREATED s_PENDING s_COMMITTED s_FINISHED s_TERMINATING s_ROLLED_BACK EN z).toL (some ("com/example/escrow/escrow/TransactionState", 57, z))) (w := 0) (by decide) (by decide) pd_3 rfl (rest := []) rfl rfl (Nat.le_of_eq rfl) (by decide) (by decide) d3_3 ?_
  rintro _ _ _ ⟨⟨rfl, rfl⟩, rfl⟩
  show Wl p l e _ s m _ below meth c n0 _ (some ("com/example/escrow/escrow/TransactionState", 57, z)) h0 0 0 (mkF m 6 #[.val (.ref s_FINISHED), .val (.ref s_PENDING)] [(.ref s_PENDING)])
  refine Wl.st (g' := (mkF m 7 #[.val (.ref s_FINISHED), .val (.ref s_PENDING)] [])) (fun X t q => XS.pop X.here C.hx rfl (hb C.hby d3_6) rfl rfl q) ?_
  refine Wl.st (g' := (mkF m 8 #[.val (.ref s_FINISHED), .val (.ref s_PENDING)] [(.ref s_FINISHED)])) (fun X t q => XS.aloadN X.here C.hx rfl (hb C.hby d3_7) rfl rfl q) ?_
  refine Wl.callU C (x := (⟨"com/example/escrow/escrow/TransactionState", "ordinal", "()I"⟩ : MethodName)) (z := (⟨"java/lang/Enum", "ordinal", "()I"⟩ : MethodName)) (K := "com/example/escrow/escrow/TransactionState") (owner := "java/lang/Enum") (hw _ (List.mem_of_getElem? (i := 34) rfl)) (hw _ (List.mem_of_getElem? (i := 35) rfl)) (hw _ (List.mem_of_getElem? (i := 36) rfl)) (hw _ (List.mem_of_getElem? (i := 38) rfl)) (hw _ (List.mem_of_getElem? (i := 37) rfl)) (hw _ (List.mem_of_getElem? (i := 39) rfl)) (hw _ (List.mem_of_getElem? (i := 40) rfl)) (by decide) (en_E_FINISHED EN) ((own_m5_24 l Z a0 hw n0 h0 s_CREATED s_PENDING s_COMMITTED s_FINISHED s_TERMINATING s_ROLLED_BACK EN ).toL (some ("com/example/escrow/escrow/TransactionState", 57, z))) (w := 0) (by decide) (by decide) pd_4 rfl (rest := []) rfl rfl (Nat.le_of_eq rfl) (by decide) (by decide) d3_8 ?_
  rintro _ _ _ ⟨⟨rfl, rfl⟩, rfl⟩
  show Wl p l e _ s m _ below meth c n0 _ (some ("com/example/escrow/escrow/TransactionState", 57, z)) h0 0 0 (mkF m 11 #[.val (.ref s_FINISHED), .val (.ref s_PENDING)] [(.int (3 : Int32))])
  refine Wl.st (g' := (mkF m 132 #[.val (.ref s_FINISHED), .val (.ref s_PENDING)] [])) (fun X t q => XS.tswIn X.here C.hx rfl (pc0 := 11) (pc' := 132) rfl (hb C.hby d3_11) rfl (by decide) (o := 121) rfl (by decide) (by decide) q) ?_
  refine Wl.st (g' := (mkF m 133 #[.val (.ref s_FINISHED), .val (.ref s_PENDING)] [(.int (0 : Int32))])) (fun X t q => XS.iconst X.here C.hx rfl (hb C.hby d3_132) q) ?_
  exact Wl.retV C (t := .boolean) rfl rfl (Or.inl ⟨rfl, by simp, _, rfl⟩) d3_133 (by decide) (by decide) ⟨rfl, rfl, rfl⟩
set_option maxRecDepth 65536 in
set_option maxHeartbeats 40000000 in
theorem own_c27 (l : Launch) (Z : State) (a0 : Array Value) (hw : ∀ d ∈ tables_1, d.before a0 Z = true) (n0 : Nat) (h0 : Heap) (s_CREATED s_PENDING s_COMMITTED s_FINISHED s_TERMINATING s_ROLLED_BACK : Addr) (EN : Enm Z h0 s_CREATED s_PENDING s_COMMITTED s_FINISHED s_TERMINATING s_ROLLED_BACK) (z : Addr) :
    MetL l Z n0 (⟨"com/example/escrow/escrow/TransactionState", "canMoveTo", "(Lcom/example/escrow/escrow/TransactionState;)Z"⟩ : MethodName) prog_34_method_7_code 2 (some .boolean) ({ frames := 1, cells := 0, slots := 0, locals := 13 } : Room) #[(.ref s_FINISHED), (.ref s_COMMITTED)] (some ("com/example/escrow/escrow/TransactionState", 57, z)) h0 (fun v h lt => v = some (.int (0 : Int32)) ∧ h0 = h ∧ lt = some ("com/example/escrow/escrow/TransactionState", 57, z)) := by
  refine MetL.of pn_1 #[.val (.ref s_FINISHED), .val (.ref s_COMMITTED)] (fun m => by first | (simp [entryFrame, mkF, argsToLocals, Value.category]; done) | rfl) ?_
  intro p e s m below meth c C
  refine Wl.st (g' := (mkF m 1 #[.val (.ref s_FINISHED), .val (.ref s_COMMITTED)] [(.ref s_COMMITTED)])) (fun X t q => XS.aloadN X.here C.hx rfl (hb C.hby d3_0) rfl rfl q) ?_
  refine Wl.ldcA C (hw _ (List.mem_of_getElem? (i := 22) rfl)) (a := z) d3_1 ?_
  show Wl p l e _ s m _ below meth c n0 _ (some ("com/example/escrow/escrow/TransactionState", 57, z)) h0 0 0 (mkF m 3 #[.val (.ref s_FINISHED), .val (.ref s_COMMITTED)] [(.ref z), (.ref s_COMMITTED)])
  refine Wl.callS C (z := (⟨"java/util/Objects", "requireNonNull", "(Ljava/lang/Object;Ljava/lang/String;)Ljava/lang/Object;"⟩ : MethodName)) (hw _ (List.mem_of_getElem? (i := 30) rfl)) (hw _ (List.mem_of_getElem? (i := 31) rfl)) (hw _ (List.mem_of_getElem? (i := 32) rfl)) (hw _ (List.mem_of_getElem? (i := 33) rfl)) (by decide) ((own_m4_12 l Z a0 hw n0 h0 s_CREATED s_PENDING s_COMMITTED s_FINISHED s_TERMINATING s_ROLLED_BACK EN z).toL (some ("com/example/escrow/escrow/TransactionState", 57, z))) (w := 0) (by decide) (by decide) pd_3 rfl (rest := []) rfl rfl (Nat.le_of_eq rfl) (by decide) (by decide) d3_3 ?_
  rintro _ _ _ ⟨⟨rfl, rfl⟩, rfl⟩
  show Wl p l e _ s m _ below meth c n0 _ (some ("com/example/escrow/escrow/TransactionState", 57, z)) h0 0 0 (mkF m 6 #[.val (.ref s_FINISHED), .val (.ref s_COMMITTED)] [(.ref s_COMMITTED)])
  refine Wl.st (g' := (mkF m 7 #[.val (.ref s_FINISHED), .val (.ref s_COMMITTED)] [])) (fun X t q => XS.pop X.here C.hx rfl (hb C.hby d3_6) rfl rfl q) ?_
  refine Wl.st (g' := (mkF m 8 #[.val (.ref s_FINISHED), .val (.ref s_COMMITTED)] [(.ref s_FINISHED)])) (fun X t q => XS.aloadN X.here C.hx rfl (hb C.hby d3_7) rfl rfl q) ?_
  refine Wl.callU C (x := (⟨"com/example/escrow/escrow/TransactionState", "ordinal", "()I"⟩ : MethodName)) (z := (⟨"java/lang/Enum", "ordinal", "()I"⟩ : MethodName)) (K := "com/example/escrow/escrow/TransactionState") (owner := "java/lang/Enum") (hw _ (List.mem_of_getElem? (i := 34) rfl)) (hw _ (List.mem_of_getElem? (i := 35) rfl)) (hw _ (List.mem_of_getElem? (i := 36) rfl)) (hw _ (List.mem_of_getElem? (i := 38) rfl)) (hw _ (List.mem_of_getElem? (i := 37) rfl)) (hw _ (List.mem_of_getElem? (i := 39) rfl)) (hw _ (List.mem_of_getElem? (i := 40) rfl)) (by decide) (en_E_FINISHED EN) ((own_m5_24 l Z a0 hw n0 h0 s_CREATED s_PENDING s_COMMITTED s_FINISHED s_TERMINATING s_ROLLED_BACK EN ).toL (some ("com/example/escrow/escrow/TransactionState", 57, z))) (w := 0) (by decide) (by decide) pd_4 rfl (rest := []) rfl rfl (Nat.le_of_eq rfl) (by decide) (by decide) d3_8 ?_
  rintro _ _ _ ⟨⟨rfl, rfl⟩, rfl⟩
  show Wl p l e _ s m _ below meth c n0 _ (some ("com/example/escrow/escrow/TransactionState", 57, z)) h0 0 0 (mkF m 11 #[.val (.ref s_FINISHED), .val (.ref s_COMMITTED)] [(.int (3 : Int32))])
  refine Wl.st (g' := (mkF m 132 #[.val (.ref s_FINISHED), .val (.ref s_COMMITTED)] [])) (fun X t q => XS.tswIn X.here C.hx rfl (pc0 := 11) (pc' := 132) rfl (hb C.hby d3_11) rfl (by decide) (o := 121) rfl (by decide) (by decide) q) ?_
  refine Wl.st (g' := (mkF m 133 #[.val (.ref s_FINISHED), .val (.ref s_COMMITTED)] [(.int (0 : Int32))])) (fun X t q => XS.iconst X.here C.hx rfl (hb C.hby d3_132) q) ?_
  exact Wl.retV C (t := .boolean) rfl rfl (Or.inl ⟨rfl, by simp, _, rfl⟩) d3_133 (by decide) (by decide) ⟨rfl, rfl, rfl⟩
set_option maxRecDepth 65536 in
set_option maxHeartbeats 40000000 in
theorem own_c28 (l : Launch) (Z : State) (a0 : Array Value) (hw : ∀ d ∈ tables_1, d.before a0 Z = true) (n0 : Nat) (h0 : Heap) (s_CREATED s_PENDING s_COMMITTED s_FINISHED s_TERMINATING s_ROLLED_BACK : Addr) (EN : Enm Z h0 s_CREATED s_PENDING s_COMMITTED s_FINISHED s_TERMINATING s_ROLLED_BACK) (z : Addr) :
    MetL l Z n0 (⟨"com/example/escrow/escrow/TransactionState", "canMoveTo", "(Lcom/example/escrow/escrow/TransactionState;)Z"⟩ : MethodName) prog_34_method_7_code 2 (some .boolean) ({ frames := 1, cells := 0, slots := 0, locals := 13 } : Room) #[(.ref s_FINISHED), (.ref s_FINISHED)] (some ("com/example/escrow/escrow/TransactionState", 57, z)) h0 (fun v h lt => v = some (.int (0 : Int32)) ∧ h0 = h ∧ lt = some ("com/example/escrow/escrow/TransactionState", 57, z)) := by
  refine MetL.of pn_1 #[.val (.ref s_FINISHED), .val (.ref s_FINISHED)] (fun m => by first | (simp [entryFrame, mkF, argsToLocals, Value.category]; done) | rfl) ?_
  intro p e s m below meth c C
  refine Wl.st (g' := (mkF m 1 #[.val (.ref s_FINISHED), .val (.ref s_FINISHED)] [(.ref s_FINISHED)])) (fun X t q => XS.aloadN X.here C.hx rfl (hb C.hby d3_0) rfl rfl q) ?_
  refine Wl.ldcA C (hw _ (List.mem_of_getElem? (i := 22) rfl)) (a := z) d3_1 ?_
  show Wl p l e _ s m _ below meth c n0 _ (some ("com/example/escrow/escrow/TransactionState", 57, z)) h0 0 0 (mkF m 3 #[.val (.ref s_FINISHED), .val (.ref s_FINISHED)] [(.ref z), (.ref s_FINISHED)])
  refine Wl.callS C (z := (⟨"java/util/Objects", "requireNonNull", "(Ljava/lang/Object;Ljava/lang/String;)Ljava/lang/Object;"⟩ : MethodName)) (hw _ (List.mem_of_getElem? (i := 30) rfl)) (hw _ (List.mem_of_getElem? (i := 31) rfl)) (hw _ (List.mem_of_getElem? (i := 32) rfl)) (hw _ (List.mem_of_getElem? (i := 33) rfl)) (by decide) ((own_m4_20 l Z a0 hw n0 h0 s_CREATED s_PENDING s_COMMITTED s_FINISHED s_TERMINATING s_ROLLED_BACK EN z).toL (some ("com/example/escrow/escrow/TransactionState", 57, z))) (w := 0) (by decide) (by decide) pd_3 rfl (rest := []) rfl rfl (Nat.le_of_eq rfl) (by decide) (by decide) d3_3 ?_
  rintro _ _ _ ⟨⟨rfl, rfl⟩, rfl⟩
  show Wl p l e _ s m _ below meth c n0 _ (some ("com/example/escrow/escrow/TransactionState", 57, z)) h0 0 0 (mkF m 6 #[.val (.ref s_FINISHED), .val (.ref s_FINISHED)] [(.ref s_FINISHED)])
  refine Wl.st (g' := (mkF m 7 #[.val (.ref s_FINISHED), .val (.ref s_FINISHED)] [])) (fun X t q => XS.pop X.here C.hx rfl (hb C.hby d3_6) rfl rfl q) ?_
  refine Wl.st (g' := (mkF m 8 #[.val (.ref s_FINISHED), .val (.ref s_FINISHED)] [(.ref s_FINISHED)])) (fun X t q => XS.aloadN X.here C.hx rfl (hb C.hby d3_7) rfl rfl q) ?_
  refine Wl.callU C (x := (⟨"com/example/escrow/escrow/TransactionState", "ordinal", "()I"⟩ : MethodName)) (z := (⟨"java/lang/Enum", "ordinal", "()I"⟩ : MethodName)) (K := "com/example/escrow/escrow/TransactionState") (owner := "java/lang/Enum") (hw _ (List.mem_of_getElem? (i := 34) rfl)) (hw _ (List.mem_of_getElem? (i := 35) rfl)) (hw _ (List.mem_of_getElem? (i := 36) rfl)) (hw _ (List.mem_of_getElem? (i := 38) rfl)) (hw _ (List.mem_of_getElem? (i := 37) rfl)) (hw _ (List.mem_of_getElem? (i := 39) rfl)) (hw _ (List.mem_of_getElem? (i := 40) rfl)) (by decide) (en_E_FINISHED EN) ((own_m5_24 l Z a0 hw n0 h0 s_CREATED s_PENDING s_COMMITTED s_FINISHED s_TERMINATING s_ROLLED_BACK EN ).toL (some ("com/example/escrow/escrow/TransactionState", 57, z))) (w := 0) (by decide) (by decide) pd_4 rfl (rest := []) rfl rfl (Nat.le_of_eq rfl) (by decide) (by decide) d3_8 ?_
  rintro _ _ _ ⟨⟨rfl, rfl⟩, rfl⟩
  show Wl p l e _ s m _ below meth c n0 _ (some ("com/example/escrow/escrow/TransactionState", 57, z)) h0 0 0 (mkF m 11 #[.val (.ref s_FINISHED), .val (.ref s_FINISHED)] [(.int (3 : Int32))])
  refine Wl.st (g' := (mkF m 132 #[.val (.ref s_FINISHED), .val (.ref s_FINISHED)] [])) (fun X t q => XS.tswIn X.here C.hx rfl (pc0 := 11) (pc' := 132) rfl (hb C.hby d3_11) rfl (by decide) (o := 121) rfl (by decide) (by decide) q) ?_
  refine Wl.st (g' := (mkF m 133 #[.val (.ref s_FINISHED), .val (.ref s_FINISHED)] [(.int (0 : Int32))])) (fun X t q => XS.iconst X.here C.hx rfl (hb C.hby d3_132) q) ?_
  exact Wl.retV C (t := .boolean) rfl rfl (Or.inl ⟨rfl, by simp, _, rfl⟩) d3_133 (by decide) (by decide) ⟨rfl, rfl, rfl⟩
set_option maxRecDepth 65536 in
set_option maxHeartbeats 40000000 in
theorem own_m4_29 (l : Launch) (Z : State) (a0 : Array Value) (hw : ∀ d ∈ tables_1, d.before a0 Z = true) (n0 : Nat) (h0 : Heap) (s_CREATED s_PENDING s_COMMITTED s_FINISHED s_TERMINATING s_ROLLED_BACK : Addr) (EN : Enm Z h0 s_CREATED s_PENDING s_COMMITTED s_FINISHED s_TERMINATING s_ROLLED_BACK) (z0 : Addr) :
    Met true l Z n0 (⟨"java/util/Objects", "requireNonNull", "(Ljava/lang/Object;Ljava/lang/String;)Ljava/lang/Object;"⟩ : MethodName) jdk_31_method_11_code 2 (some (.object "java/lang/Object")) ({ frames := 0, cells := 0, slots := 0, locals := 0 } : Room) #[(.ref s_TERMINATING), (.ref z0)] h0 (fun v h => v = some (.ref s_TERMINATING) ∧ h0 = h) := by
  refine Met.of pn_2 #[.val (.ref s_TERMINATING), .val (.ref z0)] (fun m => by first | (simp [entryFrame, mkF, argsToLocals, Value.category]; done) | rfl) ?_
  intro p e s m below meth c C
  refine Wk.st (g' := (mkF m 1 #[.val (.ref s_TERMINATING), .val (.ref z0)] [(.ref s_TERMINATING)])) (fun X t q => XS.aloadN X.here C.hx rfl (hb C.hby d4_0) rfl rfl q) ?_
  refine Wk.st (g' := (mkF m 13 #[.val (.ref s_TERMINATING), .val (.ref z0)] [])) (fun X t q => XS.ifnonnullYes X.here C.hx rfl (pc0 := 1) (pc' := 13) rfl (hb C.hby d4_1) rfl (by decide) (by decide) q) ?_
  refine Wk.st (g' := (mkF m 14 #[.val (.ref s_TERMINATING), .val (.ref z0)] [(.ref s_TERMINATING)])) (fun X t q => XS.aloadN X.here C.hx rfl (hb C.hby d4_13) rfl rfl q) ?_
  exact Wk.retV C (t := (.object "java/lang/Object")) rfl rfl (Or.inr (Or.inr (Or.inr (Or.inr ⟨rfl, rfl, rfl⟩)))) d4_14 (by decide) (by decide) ⟨rfl, rfl⟩
set_option maxRecDepth 65536 in
set_option maxHeartbeats 40000000 in
theorem own_c29 (l : Launch) (Z : State) (a0 : Array Value) (hw : ∀ d ∈ tables_1, d.before a0 Z = true) (n0 : Nat) (h0 : Heap) (s_CREATED s_PENDING s_COMMITTED s_FINISHED s_TERMINATING s_ROLLED_BACK : Addr) (EN : Enm Z h0 s_CREATED s_PENDING s_COMMITTED s_FINISHED s_TERMINATING s_ROLLED_BACK) (z : Addr) :
    MetL l Z n0 (⟨"com/example/escrow/escrow/TransactionState", "canMoveTo", "(Lcom/example/escrow/escrow/TransactionState;)Z"⟩ : MethodName) prog_34_method_7_code 2 (some .boolean) ({ frames := 1, cells := 0, slots := 0, locals := 13 } : Room) #[(.ref s_FINISHED), (.ref s_TERMINATING)] (some ("com/example/escrow/escrow/TransactionState", 57, z)) h0 (fun v h lt => v = some (.int (0 : Int32)) ∧ h0 = h ∧ lt = some ("com/example/escrow/escrow/TransactionState", 57, z)) := by
  refine MetL.of pn_1 #[.val (.ref s_FINISHED), .val (.ref s_TERMINATING)] (fun m => by first | (simp [entryFrame, mkF, argsToLocals, Value.category]; done) | rfl) ?_
  intro p e s m below meth c C
  refine Wl.st (g' := (mkF m 1 #[.val (.ref s_FINISHED), .val (.ref s_TERMINATING)] [(.ref s_TERMINATING)])) (fun X t q => XS.aloadN X.here C.hx rfl (hb C.hby d3_0) rfl rfl q) ?_
  refine Wl.ldcA C (hw _ (List.mem_of_getElem? (i := 22) rfl)) (a := z) d3_1 ?_
  show Wl p l e _ s m _ below meth c n0 _ (some ("com/example/escrow/escrow/TransactionState", 57, z)) h0 0 0 (mkF m 3 #[.val (.ref s_FINISHED), .val (.ref s_TERMINATING)] [(.ref z), (.ref s_TERMINATING)])
  refine Wl.callS C (z := (⟨"java/util/Objects", "requireNonNull", "(Ljava/lang/Object;Ljava/lang/String;)Ljava/lang/Object;"⟩ : MethodName)) (hw _ (List.mem_of_getElem? (i := 30) rfl)) (hw _ (List.mem_of_getElem? (i := 31) rfl)) (hw _ (List.mem_of_getElem? (i := 32) rfl)) (hw _ (List.mem_of_getElem? (i := 33) rfl)) (by decide) ((own_m4_29 l Z a0 hw n0 h0 s_CREATED s_PENDING s_COMMITTED s_FINISHED s_TERMINATING s_ROLLED_BACK EN z).toL (some ("com/example/escrow/escrow/TransactionState", 57, z))) (w := 0) (by decide) (by decide) pd_3 rfl (rest := []) rfl rfl (Nat.le_of_eq rfl) (by decide) (by decide) d3_3 ?_
  rintro _ _ _ ⟨⟨rfl, rfl⟩, rfl⟩
  show Wl p l e _ s m _ below meth c n0 _ (some ("com/example/escrow/escrow/TransactionState", 57, z)) h0 0 0 (mkF m 6 #[.val (.ref s_FINISHED), .val (.ref s_TERMINATING)] [(.ref s_TERMINATING)])
  refine Wl.st (g' := (mkF m 7 #[.val (.ref s_FINISHED), .val (.ref s_TERMINATING)] [])) (fun X t q => XS.pop X.here C.hx rfl (hb C.hby d3_6) rfl rfl q) ?_
  refine Wl.st (g' := (mkF m 8 #[.val (.ref s_FINISHED), .val (.ref s_TERMINATING)] [(.ref s_FINISHED)])) (fun X t q => XS.aloadN X.here C.hx rfl (hb C.hby d3_7) rfl rfl q) ?_
  refine Wl.callU C (x := (⟨"com/example/escrow/escrow/TransactionState", "ordinal", "()I"⟩ : MethodName)) (z := (⟨"java/lang/Enum", "ordinal", "()I"⟩ : MethodName)) (K := "com/example/escrow/escrow/TransactionState") (owner := "java/lang/Enum") (hw _ (List.mem_of_getElem? (i := 34) rfl)) (hw _ (List.mem_of_getElem? (i := 35) rfl)) (hw _ (List.mem_of_getElem? (i := 36) rfl)) (hw _ (List.mem_of_getElem? (i := 38) rfl)) (hw _ (List.mem_of_getElem? (i := 37) rfl)) (hw _ (List.mem_of_getElem? (i := 39) rfl)) (hw _ (List.mem_of_getElem? (i := 40) rfl)) (by decide) (en_E_FINISHED EN) ((own_m5_24 l Z a0 hw n0 h0 s_CREATED s_PENDING s_COMMITTED s_FINISHED s_TERMINATING s_ROLLED_BACK EN ).toL (some ("com/example/escrow/escrow/TransactionState", 57, z))) (w := 0) (by decide) (by decide) pd_4 rfl (rest := []) rfl rfl (Nat.le_of_eq rfl) (by decide) (by decide) d3_8 ?_
  rintro _ _ _ ⟨⟨rfl, rfl⟩, rfl⟩
  show Wl p l e _ s m _ below meth c n0 _ (some ("com/example/escrow/escrow/TransactionState", 57, z)) h0 0 0 (mkF m 11 #[.val (.ref s_FINISHED), .val (.ref s_TERMINATING)] [(.int (3 : Int32))])
  refine Wl.st (g' := (mkF m 132 #[.val (.ref s_FINISHED), .val (.ref s_TERMINATING)] [])) (fun X t q => XS.tswIn X.here C.hx rfl (pc0 := 11) (pc' := 132) rfl (hb C.hby d3_11) rfl (by decide) (o := 121) rfl (by decide) (by decide) q) ?_
  refine Wl.st (g' := (mkF m 133 #[.val (.ref s_FINISHED), .val (.ref s_TERMINATING)] [(.int (0 : Int32))])) (fun X t q => XS.iconst X.here C.hx rfl (hb C.hby d3_132) q) ?_
  exact Wl.retV C (t := .boolean) rfl rfl (Or.inl ⟨rfl, by simp, _, rfl⟩) d3_133 (by decide) (by decide) ⟨rfl, rfl, rfl⟩
set_option maxRecDepth 65536 in
set_option maxHeartbeats 40000000 in
theorem own_m4_31 (l : Launch) (Z : State) (a0 : Array Value) (hw : ∀ d ∈ tables_1, d.before a0 Z = true) (n0 : Nat) (h0 : Heap) (s_CREATED s_PENDING s_COMMITTED s_FINISHED s_TERMINATING s_ROLLED_BACK : Addr) (EN : Enm Z h0 s_CREATED s_PENDING s_COMMITTED s_FINISHED s_TERMINATING s_ROLLED_BACK) (z0 : Addr) :
    Met true l Z n0 (⟨"java/util/Objects", "requireNonNull", "(Ljava/lang/Object;Ljava/lang/String;)Ljava/lang/Object;"⟩ : MethodName) jdk_31_method_11_code 2 (some (.object "java/lang/Object")) ({ frames := 0, cells := 0, slots := 0, locals := 0 } : Room) #[(.ref s_ROLLED_BACK), (.ref z0)] h0 (fun v h => v = some (.ref s_ROLLED_BACK) ∧ h0 = h) := by
  refine Met.of pn_2 #[.val (.ref s_ROLLED_BACK), .val (.ref z0)] (fun m => by first | (simp [entryFrame, mkF, argsToLocals, Value.category]; done) | rfl) ?_
  intro p e s m below meth c C
  refine Wk.st (g' := (mkF m 1 #[.val (.ref s_ROLLED_BACK), .val (.ref z0)] [(.ref s_ROLLED_BACK)])) (fun X t q => XS.aloadN X.here C.hx rfl (hb C.hby d4_0) rfl rfl q) ?_
  refine Wk.st (g' := (mkF m 13 #[.val (.ref s_ROLLED_BACK), .val (.ref z0)] [])) (fun X t q => XS.ifnonnullYes X.here C.hx rfl (pc0 := 1) (pc' := 13) rfl (hb C.hby d4_1) rfl (by decide) (by decide) q) ?_
  refine Wk.st (g' := (mkF m 14 #[.val (.ref s_ROLLED_BACK), .val (.ref z0)] [(.ref s_ROLLED_BACK)])) (fun X t q => XS.aloadN X.here C.hx rfl (hb C.hby d4_13) rfl rfl q) ?_
  exact Wk.retV C (t := (.object "java/lang/Object")) rfl rfl (Or.inr (Or.inr (Or.inr (Or.inr ⟨rfl, rfl, rfl⟩)))) d4_14 (by decide) (by decide) ⟨rfl, rfl⟩
set_option maxRecDepth 65536 in
set_option maxHeartbeats 40000000 in
theorem own_c31 (l : Launch) (Z : State) (a0 : Array Value) (hw : ∀ d ∈ tables_1, d.before a0 Z = true) (n0 : Nat) (h0 : Heap) (s_CREATED s_PENDING s_COMMITTED s_FINISHED s_TERMINATING s_ROLLED_BACK : Addr) (EN : Enm Z h0 s_CREATED s_PENDING s_COMMITTED s_FINISHED s_TERMINATING s_ROLLED_BACK) (z : Addr) :
    MetL l Z n0 (⟨"com/example/escrow/escrow/TransactionState", "canMoveTo", "(Lcom/example/escrow/escrow/TransactionState;)Z"⟩ : MethodName) prog_34_method_7_code 2 (some .boolean) ({ frames := 1, cells := 0, slots := 0, locals := 13 } : Room) #[(.ref s_FINISHED), (.ref s_ROLLED_BACK)] (some ("com/example/escrow/escrow/TransactionState", 57, z)) h0 (fun v h lt => v = some (.int (0 : Int32)) ∧ h0 = h ∧ lt = some ("com/example/escrow/escrow/TransactionState", 57, z)) := by
  refine MetL.of pn_1 #[.val (.ref s_FINISHED), .val (.ref s_ROLLED_BACK)] (fun m => by first | (simp [entryFrame, mkF, argsToLocals, Value.category]; done) | rfl) ?_
  intro p e s m below meth c C
  refine Wl.st (g' := (mkF m 1 #[.val (.ref s_FINISHED), .val (.ref s_ROLLED_BACK)] [(.ref s_ROLLED_BACK)])) (fun X t q => XS.aloadN X.here C.hx rfl (hb C.hby d3_0) rfl rfl q) ?_
  refine Wl.ldcA C (hw _ (List.mem_of_getElem? (i := 22) rfl)) (a := z) d3_1 ?_
  show Wl p l e _ s m _ below meth c n0 _ (some ("com/example/escrow/escrow/TransactionState", 57, z)) h0 0 0 (mkF m 3 #[.val (.ref s_FINISHED), .val (.ref s_ROLLED_BACK)] [(.ref z), (.ref s_ROLLED_BACK)])
  refine Wl.callS C (z := (⟨"java/util/Objects", "requireNonNull", "(Ljava/lang/Object;Ljava/lang/String;)Ljava/lang/Object;"⟩ : MethodName)) (hw _ (List.mem_of_getElem? (i := 30) rfl)) (hw _ (List.mem_of_getElem? (i := 31) rfl)) (hw _ (List.mem_of_getElem? (i := 32) rfl)) (hw _ (List.mem_of_getElem? (i := 33) rfl)) (by decide) ((own_m4_31 l Z a0 hw n0 h0 s_CREATED s_PENDING s_COMMITTED s_FINISHED s_TERMINATING s_ROLLED_BACK EN z).toL (some ("com/example/escrow/escrow/TransactionState", 57, z))) (w := 0) (by decide) (by decide) pd_3 rfl (rest := []) rfl rfl (Nat.le_of_eq rfl) (by decide) (by decide) d3_3 ?_
  rintro _ _ _ ⟨⟨rfl, rfl⟩, rfl⟩
  show Wl p l e _ s m _ below meth c n0 _ (some ("com/example/escrow/escrow/TransactionState", 57, z)) h0 0 0 (mkF m 6 #[.val (.ref s_FINISHED), .val (.ref s_ROLLED_BACK)] [(.ref s_ROLLED_BACK)])
  refine Wl.st (g' := (mkF m 7 #[.val (.ref s_FINISHED), .val (.ref s_ROLLED_BACK)] [])) (fun X t q => XS.pop X.here C.hx rfl (hb C.hby d3_6) rfl rfl q) ?_
  refine Wl.st (g' := (mkF m 8 #[.val (.ref s_FINISHED), .val (.ref s_ROLLED_BACK)] [(.ref s_FINISHED)])) (fun X t q => XS.aloadN X.here C.hx rfl (hb C.hby d3_7) rfl rfl q) ?_
  refine Wl.callU C (x := (⟨"com/example/escrow/escrow/TransactionState", "ordinal", "()I"⟩ : MethodName)) (z := (⟨"java/lang/Enum", "ordinal", "()I"⟩ : MethodName)) (K := "com/example/escrow/escrow/TransactionState") (owner := "java/lang/Enum") (hw _ (List.mem_of_getElem? (i := 34) rfl)) (hw _ (List.mem_of_getElem? (i := 35) rfl)) (hw _ (List.mem_of_getElem? (i := 36) rfl)) (hw _ (List.mem_of_getElem? (i := 38) rfl)) (hw _ (List.mem_of_getElem? (i := 37) rfl)) (hw _ (List.mem_of_getElem? (i := 39) rfl)) (hw _ (List.mem_of_getElem? (i := 40) rfl)) (by decide) (en_E_FINISHED EN) ((own_m5_24 l Z a0 hw n0 h0 s_CREATED s_PENDING s_COMMITTED s_FINISHED s_TERMINATING s_ROLLED_BACK EN ).toL (some ("com/example/escrow/escrow/TransactionState", 57, z))) (w := 0) (by decide) (by decide) pd_4 rfl (rest := []) rfl rfl (Nat.le_of_eq rfl) (by decide) (by decide) d3_8 ?_
  rintro _ _ _ ⟨⟨rfl, rfl⟩, rfl⟩
  show Wl p l e _ s m _ below meth c n0 _ (some ("com/example/escrow/escrow/TransactionState", 57, z)) h0 0 0 (mkF m 11 #[.val (.ref s_FINISHED), .val (.ref s_ROLLED_BACK)] [(.int (3 : Int32))])
  refine Wl.st (g' := (mkF m 132 #[.val (.ref s_FINISHED), .val (.ref s_ROLLED_BACK)] [])) (fun X t q => XS.tswIn X.here C.hx rfl (pc0 := 11) (pc' := 132) rfl (hb C.hby d3_11) rfl (by decide) (o := 121) rfl (by decide) (by decide) q) ?_
  refine Wl.st (g' := (mkF m 133 #[.val (.ref s_FINISHED), .val (.ref s_ROLLED_BACK)] [(.int (0 : Int32))])) (fun X t q => XS.iconst X.here C.hx rfl (hb C.hby d3_132) q) ?_
  exact Wl.retV C (t := .boolean) rfl rfl (Or.inl ⟨rfl, by simp, _, rfl⟩) d3_133 (by decide) (by decide) ⟨rfl, rfl, rfl⟩
set_option maxRecDepth 65536 in
set_option maxHeartbeats 40000000 in
theorem own_m1_33 (l : Launch) (Z : State) (a0 : Array Value) (hw : ∀ d ∈ tables_1, d.before a0 Z = true) (n0 : Nat) (h0 : Heap) (s_CREATED s_PENDING s_COMMITTED s_FINISHED s_TERMINATING s_ROLLED_BACK : Addr) (EN : Enm Z h0 s_CREATED s_PENDING s_COMMITTED s_FINISHED s_TERMINATING s_ROLLED_BACK) :
    Met true l Z n0 (⟨"com/example/escrow/escrow/TransactionStateIsEndedPinLaw", "pick", "(I)Lcom/example/escrow/escrow/TransactionState;"⟩ : MethodName) method_2_code 1 (some (.object "com/example/escrow/escrow/TransactionState")) ({ frames := 0, cells := 0, slots := 0, locals := 0 } : Room) #[(.int (4 : Int32))] h0 (fun v h => v = some (.ref s_TERMINATING) ∧ h0 = h) := by
  refine Met.of pn_0 #[.val (.int (4 : Int32))] (fun m => by first | (simp [entryFrame, mkF, argsToLocals, Value.category]; done) | rfl) ?_
  intro p e s m below meth c C
  refine Wk.st (g' := (mkF m 1 #[.val (.int (4 : Int32))] [(.int (4 : Int32))])) (fun X t q => XS.iloadN X.here C.hx rfl (hb C.hby d1_0) rfl q) ?_
  refine Wk.st (g' := (mkF m 8 #[.val (.int (4 : Int32))] [])) (fun X t q => XS.ifYes X.here C.hx rfl (pc0 := 1) (pc' := 8) rfl (hb C.hby d1_1) rfl (XT.i0_ne_t (by decide)) (by decide) (by decide) q) ?_
  refine Wk.st (g' := (mkF m 9 #[.val (.int (4 : Int32))] [(.int (4 : Int32))])) (fun X t q => XS.iloadN X.here C.hx rfl (hb C.hby d1_8) rfl q) ?_
  refine Wk.st (g' := (mkF m 10 #[.val (.int (4 : Int32))] [(.int (1 : Int32)), (.int (4 : Int32))])) (fun X t q => XS.iconst X.here C.hx rfl (hb C.hby d1_9) q) ?_
  refine Wk.st (g' := (mkF m 17 #[.val (.int (4 : Int32))] [])) (fun X t q => XS.icmpYes X.here C.hx rfl (pc0 := 10) (pc' := 17) rfl (hb C.hby d1_10) rfl (XT.ii_ne_t (by decide)) (by decide) (by decide) q) ?_
  refine Wk.st (g' := (mkF m 18 #[.val (.int (4 : Int32))] [(.int (4 : Int32))])) (fun X t q => XS.iloadN X.here C.hx rfl (hb C.hby d1_17) rfl q) ?_
  refine Wk.st (g' := (mkF m 19 #[.val (.int (4 : Int32))] [(.int (2 : Int32)), (.int (4 : Int32))])) (fun X t q => XS.iconst X.here C.hx rfl (hb C.hby d1_18) q) ?_
  refine Wk.st (g' := (mkF m 26 #[.val (.int (4 : Int32))] [])) (fun X t q => XS.icmpYes X.here C.hx rfl (pc0 := 19) (pc' := 26) rfl (hb C.hby d1_19) rfl (XT.ii_ne_t (by decide)) (by decide) (by decide) q) ?_
  refine Wk.st (g' := (mkF m 27 #[.val (.int (4 : Int32))] [(.int (4 : Int32))])) (fun X t q => XS.iloadN X.here C.hx rfl (hb C.hby d1_26) rfl q) ?_
  refine Wk.st (g' := (mkF m 28 #[.val (.int (4 : Int32))] [(.int (3 : Int32)), (.int (4 : Int32))])) (fun X t q => XS.iconst X.here C.hx rfl (hb C.hby d1_27) q) ?_
  refine Wk.st (g' := (mkF m 35 #[.val (.int (4 : Int32))] [])) (fun X t q => XS.icmpYes X.here C.hx rfl (pc0 := 28) (pc' := 35) rfl (hb C.hby d1_28) rfl (XT.ii_ne_t (by decide)) (by decide) (by decide) q) ?_
  refine Wk.st (g' := (mkF m 36 #[.val (.int (4 : Int32))] [(.int (4 : Int32))])) (fun X t q => XS.iloadN X.here C.hx rfl (hb C.hby d1_35) rfl q) ?_
  refine Wk.st (g' := (mkF m 37 #[.val (.int (4 : Int32))] [(.int (4 : Int32)), (.int (4 : Int32))])) (fun X t q => XS.iconst X.here C.hx rfl (hb C.hby d1_36) q) ?_
  refine Wk.st (g' := (mkF m 40 #[.val (.int (4 : Int32))] [])) (fun X t q => XS.icmpNo X.here C.hx rfl (hb C.hby d1_37) rfl (XT.ii_ne_f (by decide)) q) ?_
  refine Wk.getS C (hw _ (List.mem_of_getElem? (i := 51) rfl)) (en_S_TERMINATING EN) d1_40 ?_
  show Wk _ p l e _ s m _ below meth c n0 _ h0 0 0 (mkF m 43 #[.val (.int (4 : Int32))] [(.ref s_TERMINATING)])
  exact Wk.retV C (t := (.object "com/example/escrow/escrow/TransactionState")) rfl rfl (Or.inr (Or.inr (Or.inr (Or.inr ⟨rfl, rfl, rfl⟩)))) d1_43 (by decide) (by decide) ⟨rfl, rfl⟩
set_option maxRecDepth 65536 in
set_option maxHeartbeats 40000000 in
theorem own_m2_34 (l : Launch) (Z : State) (a0 : Array Value) (hw : ∀ d ∈ tables_1, d.before a0 Z = true) (n0 : Nat) (h0 : Heap) (s_CREATED s_PENDING s_COMMITTED s_FINISHED s_TERMINATING s_ROLLED_BACK : Addr) (EN : Enm Z h0 s_CREATED s_PENDING s_COMMITTED s_FINISHED s_TERMINATING s_ROLLED_BACK) :
    Met true l Z n0 (⟨"com/example/escrow/escrow/TransactionState", "isEnded", "()Z"⟩ : MethodName) prog_34_method_6_code 1 (some .boolean) ({ frames := 0, cells := 0, slots := 0, locals := 0 } : Room) #[(.ref s_TERMINATING)] h0 (fun v h => v = some (.int (0 : Int32)) ∧ h0 = h) := by
  refine Met.of pn_1 #[.val (.ref s_TERMINATING)] (fun m => by first | (simp [entryFrame, mkF, argsToLocals, Value.category]; done) | rfl) ?_
  intro p e s m below meth c C
  refine Wk.st (g' := (mkF m 1 #[.val (.ref s_TERMINATING)] [(.ref s_TERMINATING)])) (fun X t q => XS.aloadN X.here C.hx rfl (hb C.hby d2_0) rfl rfl q) ?_
  refine Wk.getS C (hw _ (List.mem_of_getElem? (i := 13) rfl)) (en_S_FINISHED EN) d2_1 ?_
  show Wk _ p l e _ s m _ below meth c n0 _ h0 0 0 (mkF m 4 #[.val (.ref s_TERMINATING)] [(.ref s_FINISHED), (.ref s_TERMINATING)])
  refine Wk.st (g' := (mkF m 7 #[.val (.ref s_TERMINATING)] [])) (fun X t q => Jvm.RoadKit.acmp (g := (mkF m 4 #[.val (.ref s_TERMINATING)] [(.ref s_FINISHED), (.ref s_TERMINATING)])) X C.hx rfl rfl rfl (pc0 := 4) (pc' := 7) (same := false) rfl (hb C.hby d2_4) rfl (decide_eq_false fun q => (ne_fld (en_O_TERMINATING_ordinal EN) (en_O_FINISHED_ordinal EN) (by decide)) (Value.ref.inj q)) (by decide) (by decide) q) ?_
  refine Wk.st (g' := (mkF m 8 #[.val (.ref s_TERMINATING)] [(.ref s_TERMINATING)])) (fun X t q => XS.aloadN X.here C.hx rfl (hb C.hby d2_7) rfl rfl q) ?_
  refine Wk.getS C (hw _ (List.mem_of_getElem? (i := 15) rfl)) (en_S_ROLLED_BACK EN) d2_8 ?_
  show Wk _ p l e _ s m _ below meth c n0 _ h0 0 0 (mkF m 11 #[.val (.ref s_TERMINATING)] [(.ref s_ROLLED_BACK), (.ref s_TERMINATING)])
  refine Wk.st (g' := (mkF m 18 #[.val (.ref s_TERMINATING)] [])) (fun X t q => Jvm.RoadKit.acmp (g := (mkF m 11 #[.val (.ref s_TERMINATING)] [(.ref s_ROLLED_BACK), (.ref s_TERMINATING)])) X C.hx rfl rfl rfl (pc0 := 11) (pc' := 18) (same := false) rfl (hb C.hby d2_11) rfl (decide_eq_false fun q => (ne_fld (en_O_TERMINATING_ordinal EN) (en_O_ROLLED_BACK_ordinal EN) (by decide)) (Value.ref.inj q)) (by decide) (by decide) q) ?_
  refine Wk.st (g' := (mkF m 19 #[.val (.ref s_TERMINATING)] [(.int (0 : Int32))])) (fun X t q => XS.iconst X.here C.hx rfl (hb C.hby d2_18) q) ?_
  exact Wk.retV C (t := .boolean) rfl rfl (Or.inl ⟨rfl, by simp, _, rfl⟩) d2_19 (by decide) (by decide) ⟨rfl, rfl⟩
set_option maxRecDepth 65536 in
set_option maxHeartbeats 40000000 in
theorem own_m5_35 (l : Launch) (Z : State) (a0 : Array Value) (hw : ∀ d ∈ tables_1, d.before a0 Z = true) (n0 : Nat) (h0 : Heap) (s_CREATED s_PENDING s_COMMITTED s_FINISHED s_TERMINATING s_ROLLED_BACK : Addr) (EN : Enm Z h0 s_CREATED s_PENDING s_COMMITTED s_FINISHED s_TERMINATING s_ROLLED_BACK) :
    Met true l Z n0 (⟨"java/lang/Enum", "ordinal", "()I"⟩ : MethodName) jdk_37_method_2_code 1 (some .int) ({ frames := 0, cells := 0, slots := 0, locals := 0 } : Room) #[(.ref s_TERMINATING)] h0 (fun v h => v = some (.int (4 : Int32)) ∧ h0 = h) := by
  refine Met.of pn_3 #[.val (.ref s_TERMINATING)] (fun m => by first | (simp [entryFrame, mkF, argsToLocals, Value.category]; done) | rfl) ?_
  intro p e s m below meth c C
  refine Wk.st (g' := (mkF m 1 #[.val (.ref s_TERMINATING)] [(.ref s_TERMINATING)])) (fun X t q => XS.aloadN X.here C.hx rfl (hb C.hby d5_0) rfl rfl q) ?_
  refine Wk.getF C (hw _ (List.mem_of_getElem? (i := 41) rfl)) Via.refl (en_O_TERMINATING_ordinal EN) d5_1 ?_
  show Wk _ p l e _ s m _ below meth c n0 _ h0 0 0 (mkF m 4 #[.val (.ref s_TERMINATING)] [(.int (4 : Int32))])
  exact Wk.retV C (t := .int) rfl rfl (Or.inl ⟨rfl, by simp, _, rfl⟩) d5_4 (by decide) (by decide) ⟨rfl, rfl⟩
set_option maxRecDepth 65536 in
set_option maxHeartbeats 40000000 in
theorem own_c35 (l : Launch) (Z : State) (a0 : Array Value) (hw : ∀ d ∈ tables_1, d.before a0 Z = true) (n0 : Nat) (h0 : Heap) (s_CREATED s_PENDING s_COMMITTED s_FINISHED s_TERMINATING s_ROLLED_BACK : Addr) (EN : Enm Z h0 s_CREATED s_PENDING s_COMMITTED s_FINISHED s_TERMINATING s_ROLLED_BACK) :
    MetL l Z n0 (⟨"com/example/escrow/escrow/TransactionState", "canMoveTo", "(Lcom/example/escrow/escrow/TransactionState;)Z"⟩ : MethodName) prog_34_method_7_code 2 (some .boolean) ({ frames := 1, cells := 2, slots := 20, locals := 13 } : Room) #[(.ref s_TERMINATING), (.ref s_CREATED)] none h0 (fun v h lt => v = some (.int (0 : Int32)) ∧ Ext h0 h ∧ ∃ a, lt = some ("com/example/escrow/escrow/TransactionState", 57, a)) := by
  refine MetL.of pn_1 #[.val (.ref s_TERMINATING), .val (.ref s_CREATED)] (fun m => by first | (simp [entryFrame, mkF, argsToLocals, Value.category]; done) | rfl) ?_
  intro p e s m below meth c C
  refine Wl.st (g' := (mkF m 1 #[.val (.ref s_TERMINATING), .val (.ref s_CREATED)] [(.ref s_CREATED)])) (fun X t q => XS.aloadN X.here C.hx rfl (hb C.hby d3_0) rfl rfl q) ?_
  refine Wl.ldcS C (hw _ (List.mem_of_getElem? (i := 22) rfl)) (own_wS hw) (N := 16) (by decide) (by decide) d3_1 (by decide) (by decide) ?_
  intro h1 a2 E3
  show Wl p l e _ s m _ below meth c n0 _ (some ("com/example/escrow/escrow/TransactionState", 57, a2)) h1 2 20 (mkF m 3 #[.val (.ref s_TERMINATING), .val (.ref s_CREATED)] [(.ref a2), (.ref s_CREATED)])
  refine Wl.callS C (z := (⟨"java/util/Objects", "requireNonNull", "(Ljava/lang/Object;Ljava/lang/String;)Ljava/lang/Object;"⟩ : MethodName)) (hw _ (List.mem_of_getElem? (i := 30) rfl)) (hw _ (List.mem_of_getElem? (i := 31) rfl)) (hw _ (List.mem_of_getElem? (i := 32) rfl)) (hw _ (List.mem_of_getElem? (i := 33) rfl)) (by decide) ((own_m4_2 l Z a0 hw n0 h1 s_CREATED s_PENDING s_COMMITTED s_FINISHED s_TERMINATING s_ROLLED_BACK (EN.ext E3) a2).toL (some ("com/example/escrow/escrow/TransactionState", 57, a2))) (w := 0) (by decide) (by decide) pd_3 rfl (rest := []) rfl rfl (Nat.le_of_eq rfl) (by decide) (by decide) d3_3 ?_
  rintro _ _ _ ⟨⟨rfl, rfl⟩, rfl⟩
  show Wl p l e _ s m _ below meth c n0 _ (some ("com/example/escrow/escrow/TransactionState", 57, a2)) h1 2 20 (mkF m 6 #[.val (.ref s_TERMINATING), .val (.ref s_CREATED)] [(.ref s_CREATED)])
  refine Wl.st (g' := (mkF m 7 #[.val (.ref s_TERMINATING), .val (.ref s_CREATED)] [])) (fun X t q => XS.pop X.here C.hx rfl (hb C.hby d3_6) rfl rfl q) ?_
  refine Wl.st (g' := (mkF m 8 #[.val (.ref s_TERMINATING), .val (.ref s_CREATED)] [(.ref s_TERMINATING)])) (fun X t q => XS.aloadN X.here C.hx rfl (hb C.hby d3_7) rfl rfl q) ?_
  refine Wl.callU C (x := (⟨"com/example/escrow/escrow/TransactionState", "ordinal", "()I"⟩ : MethodName)) (z := (⟨"java/lang/Enum", "ordinal", "()I"⟩ : MethodName)) (K := "com/example/escrow/escrow/TransactionState") (owner := "java/lang/Enum") (hw _ (List.mem_of_getElem? (i := 34) rfl)) (hw _ (List.mem_of_getElem? (i := 35) rfl)) (hw _ (List.mem_of_getElem? (i := 36) rfl)) (hw _ (List.mem_of_getElem? (i := 38) rfl)) (hw _ (List.mem_of_getElem? (i := 37) rfl)) (hw _ (List.mem_of_getElem? (i := 39) rfl)) (hw _ (List.mem_of_getElem? (i := 40) rfl)) (by decide) (en_E_TERMINATING (EN.ext E3)) ((own_m5_35 l Z a0 hw n0 h1 s_CREATED s_PENDING s_COMMITTED s_FINISHED s_TERMINATING s_ROLLED_BACK (EN.ext E3) ).toL (some ("com/example/escrow/escrow/TransactionState", 57, a2))) (w := 0) (by decide) (by decide) pd_4 rfl (rest := []) rfl rfl (Nat.le_of_eq rfl) (by decide) (by decide) d3_8 ?_
  rintro _ _ _ ⟨⟨rfl, rfl⟩, rfl⟩
  show Wl p l e _ s m _ below meth c n0 _ (some ("com/example/escrow/escrow/TransactionState", 57, a2)) h1 2 20 (mkF m 11 #[.val (.ref s_TERMINATING), .val (.ref s_CREATED)] [(.int (4 : Int32))])
  refine Wl.st (g' := (mkF m 117 #[.val (.ref s_TERMINATING), .val (.ref s_CREATED)] [])) (fun X t q => XS.tswIn X.here C.hx rfl (pc0 := 11) (pc' := 117) rfl (hb C.hby d3_11) rfl (by decide) (o := 106) rfl (by decide) (by decide) q) ?_
  refine Wl.st (g' := (mkF m 118 #[.val (.ref s_TERMINATING), .val (.ref s_CREATED)] [(.ref s_CREATED)])) (fun X t q => XS.aloadN X.here C.hx rfl (hb C.hby d3_117) rfl rfl q) ?_
  refine Wl.getS C (hw _ (List.mem_of_getElem? (i := 15) rfl)) (en_S_ROLLED_BACK (EN.ext E3)) d3_118 ?_
  show Wl p l e _ s m _ below meth c n0 _ (some ("com/example/escrow/escrow/TransactionState", 57, a2)) h1 2 20 (mkF m 121 #[.val (.ref s_TERMINATING), .val (.ref s_CREATED)] [(.ref s_ROLLED_BACK), (.ref s_CREATED)])
  refine Wl.st (g' := (mkF m 128 #[.val (.ref s_TERMINATING), .val (.ref s_CREATED)] [])) (fun X t q => Jvm.RoadKit.acmp (g := (mkF m 121 #[.val (.ref s_TERMINATING), .val (.ref s_CREATED)] [(.ref s_ROLLED_BACK), (.ref s_CREATED)])) X C.hx rfl rfl rfl (pc0 := 121) (pc' := 128) (same := false) rfl (hb C.hby d3_121) rfl (decide_eq_false fun q => (ne_fld (en_O_CREATED_ordinal (EN.ext E3)) (en_O_ROLLED_BACK_ordinal (EN.ext E3)) (by decide)) (Value.ref.inj q)) (by decide) (by decide) q) ?_
  refine Wl.st (g' := (mkF m 129 #[.val (.ref s_TERMINATING), .val (.ref s_CREATED)] [(.int (0 : Int32))])) (fun X t q => XS.iconst X.here C.hx rfl (hb C.hby d3_128) q) ?_
  refine Wl.st (g' := (mkF m 133 #[.val (.ref s_TERMINATING), .val (.ref s_CREATED)] [(.int (0 : Int32))])) (fun X t q => XS.goto X.here C.hx rfl (pc0 := 129) (pc' := 133) rfl (hb C.hby d3_129) (by decide) (by decide) q) ?_
  exact Wl.retV C (t := .boolean) rfl rfl (Or.inl ⟨rfl, by simp, _, rfl⟩) d3_133 (by decide) (by decide) ⟨rfl, E3, a2, rfl⟩
set_option maxRecDepth 65536 in
set_option maxHeartbeats 40000000 in
theorem own_c37 (l : Launch) (Z : State) (a0 : Array Value) (hw : ∀ d ∈ tables_1, d.before a0 Z = true) (n0 : Nat) (h0 : Heap) (s_CREATED s_PENDING s_COMMITTED s_FINISHED s_TERMINATING s_ROLLED_BACK : Addr) (EN : Enm Z h0 s_CREATED s_PENDING s_COMMITTED s_FINISHED s_TERMINATING s_ROLLED_BACK) (z : Addr) :
    MetL l Z n0 (⟨"com/example/escrow/escrow/TransactionState", "canMoveTo", "(Lcom/example/escrow/escrow/TransactionState;)Z"⟩ : MethodName) prog_34_method_7_code 2 (some .boolean) ({ frames := 1, cells := 0, slots := 0, locals := 13 } : Room) #[(.ref s_TERMINATING), (.ref s_PENDING)] (some ("com/example/escrow/escrow/TransactionState", 57, z)) h0 (fun v h lt => v = some (.int (0 : Int32)) ∧ h0 = h ∧ lt = some ("com/example/escrow/escrow/TransactionState", 57, z)) := by
  refine MetL.of pn_1 #[.val (.ref s_TERMINATING), .val (.ref s_PENDING)] (fun m => by first | (simp [entryFrame, mkF, argsToLocals, Value.category]; done) | rfl) ?_
  intro p e s m below meth c C
  refine Wl.st (g' := (mkF m 1 #[.val (.ref s_TERMINATING), .val (.ref s_PENDING)] [(.ref s_PENDING)])) (fun X t q => XS.aloadN X.here C.hx rfl (hb C.hby d3_0) rfl rfl q) ?_
  refine Wl.ldcA C (hw _ (List.mem_of_getElem? (i := 22) rfl)) (a := z) d3_1 ?_
  show Wl p l e _ s m _ below meth c n0 _ (some ("com/example/escrow/escrow/TransactionState", 57, z)) h0 0 0 (mkF m 3 #[.val (.ref s_TERMINATING), .val (.ref s_PENDING)] [(.ref z), (.ref s_PENDING)])
  refine Wl.callS C (z := (⟨"java/util/Objects", "requireNonNull", "(Ljava/lang/Object;Ljava/lang/String;)Ljava/lang/Object;"⟩ : MethodName)) (hw _ (List.mem_of_getElem? (i := 30) rfl)) (hw _ (List.mem_of_getElem? (i := 31) rfl)) (hw _ (List.mem_of_getElem? (i := 32) rfl)) (hw _ (List.mem_of_getElem? (i := 33) rfl)) (by decide) ((own_m4_5 l Z a0 hw n0 h0 s_CREATED s_PENDING s_COMMITTED s_FINISHED s_TERMINATING s_ROLLED_BACK EN z).toL (some ("com/example/escrow/escrow/TransactionState", 57, z))) (w := 0) (by decide) (by decide) pd_3 rfl (rest := []) rfl rfl (Nat.le_of_eq rfl) (by decide) (by decide) d3_3 ?_
  rintro _ _ _ ⟨⟨rfl, rfl⟩, rfl⟩
  show Wl p l e _ s m _ below meth c n0 _ (some ("com/example/escrow/escrow/TransactionState", 57, z)) h0 0 0 (mkF m 6 #[.val (.ref s_TERMINATING), .val (.ref s_PENDING)] [(.ref s_PENDING)])
  refine Wl.st (g' := (mkF m 7 #[.val (.ref s_TERMINATING), .val (.ref s_PENDING)] [])) (fun X t q => XS.pop X.here C.hx rfl (hb C.hby d3_6) rfl rfl q) ?_
  refine Wl.st (g' := (mkF m 8 #[.val (.ref s_TERMINATING), .val (.ref s_PENDING)] [(.ref s_TERMINATING)])) (fun X t q => XS.aloadN X.here C.hx rfl (hb C.hby d3_7) rfl rfl q) ?_
  refine Wl.callU C (x := (⟨"com/example/escrow/escrow/TransactionState", "ordinal", "()I"⟩ : MethodName)) (z := (⟨"java/lang/Enum", "ordinal", "()I"⟩ : MethodName)) (K := "com/example/escrow/escrow/TransactionState") (owner := "java/lang/Enum") (hw _ (List.mem_of_getElem? (i := 34) rfl)) (hw _ (List.mem_of_getElem? (i := 35) rfl)) (hw _ (List.mem_of_getElem? (i := 36) rfl)) (hw _ (List.mem_of_getElem? (i := 38) rfl)) (hw _ (List.mem_of_getElem? (i := 37) rfl)) (hw _ (List.mem_of_getElem? (i := 39) rfl)) (hw _ (List.mem_of_getElem? (i := 40) rfl)) (by decide) (en_E_TERMINATING EN) ((own_m5_35 l Z a0 hw n0 h0 s_CREATED s_PENDING s_COMMITTED s_FINISHED s_TERMINATING s_ROLLED_BACK EN ).toL (some ("com/example/escrow/escrow/TransactionState", 57, z))) (w := 0) (by decide) (by decide) pd_4 rfl (rest := []) rfl rfl (Nat.le_of_eq rfl) (by decide) (by decide) d3_8 ?_
  rintro _ _ _ ⟨⟨rfl, rfl⟩, rfl⟩
  show Wl p l e _ s m _ below meth c n0 _ (some ("com/example/escrow/escrow/TransactionState", 57, z)) h0 0 0 (mkF m 11 #[.val (.ref s_TERMINATING), .val (.ref s_PENDING)] [(.int (4 : Int32))])
  refine Wl.st (g' := (mkF m 117 #[.val (.ref s_TERMINATING), .val (.ref s_PENDING)] [])) (fun X t q => XS.tswIn X.here C.hx rfl (pc0 := 11) (pc' := 117) rfl (hb C.hby d3_11) rfl (by decide) (o := 106) rfl (by decide) (by decide) q) ?_
  refine Wl.st (g' := (mkF m 118 #[.val (.ref s_TERMINATING), .val (.ref s_PENDING)] [(.ref s_PENDING)])) (fun X t q => XS.aloadN X.here C.hx rfl (hb C.hby d3_117) rfl rfl q) ?_
  refine Wl.getS C (hw _ (List.mem_of_getElem? (i := 15) rfl)) (en_S_ROLLED_BACK EN) d3_118 ?_
  show Wl p l e _ s m _ below meth c n0 _ (some ("com/example/escrow/escrow/TransactionState", 57, z)) h0 0 0 (mkF m 121 #[.val (.ref s_TERMINATING), .val (.ref s_PENDING)] [(.ref s_ROLLED_BACK), (.ref s_PENDING)])
  refine Wl.st (g' := (mkF m 128 #[.val (.ref s_TERMINATING), .val (.ref s_PENDING)] [])) (fun X t q => Jvm.RoadKit.acmp (g := (mkF m 121 #[.val (.ref s_TERMINATING), .val (.ref s_PENDING)] [(.ref s_ROLLED_BACK), (.ref s_PENDING)])) X C.hx rfl rfl rfl (pc0 := 121) (pc' := 128) (same := false) rfl (hb C.hby d3_121) rfl (decide_eq_false fun q => (ne_fld (en_O_PENDING_ordinal EN) (en_O_ROLLED_BACK_ordinal EN) (by decide)) (Value.ref.inj q)) (by decide) (by decide) q) ?_
  refine Wl.st (g' := (mkF m 129 #[.val (.ref s_TERMINATING), .val (.ref s_PENDING)] [(.int (0 : Int32))])) (fun X t q => XS.iconst X.here C.hx rfl (hb C.hby d3_128) q) ?_
  refine Wl.st (g' := (mkF m 133 #[.val (.ref s_TERMINATING), .val (.ref s_PENDING)] [(.int (0 : Int32))])) (fun X t q => XS.goto X.here C.hx rfl (pc0 := 129) (pc' := 133) rfl (hb C.hby d3_129) (by decide) (by decide) q) ?_
  exact Wl.retV C (t := .boolean) rfl rfl (Or.inl ⟨rfl, by simp, _, rfl⟩) d3_133 (by decide) (by decide) ⟨rfl, rfl, rfl⟩
set_option maxRecDepth 65536 in
set_option maxHeartbeats 40000000 in
theorem own_c38 (l : Launch) (Z : State) (a0 : Array Value) (hw : ∀ d ∈ tables_1, d.before a0 Z = true) (n0 : Nat) (h0 : Heap) (s_CREATED s_PENDING s_COMMITTED s_FINISHED s_TERMINATING s_ROLLED_BACK : Addr) (EN : Enm Z h0 s_CREATED s_PENDING s_COMMITTED s_FINISHED s_TERMINATING s_ROLLED_BACK) (z : Addr) :
    MetL l Z n0 (⟨"com/example/escrow/escrow/TransactionState", "canMoveTo", "(Lcom/example/escrow/escrow/TransactionState;)Z"⟩ : MethodName) prog_34_method_7_code 2 (some .boolean) ({ frames := 1, cells := 0, slots := 0, locals := 13 } : Room) #[(.ref s_TERMINATING), (.ref s_COMMITTED)] (some ("com/example/escrow/escrow/TransactionState", 57, z)) h0 (fun v h lt => v = some (.int (0 : Int32)) ∧ h0 = h ∧ lt = some ("com/example/escrow/escrow/TransactionState", 57, z)) := by
  refine MetL.of pn_1 #[.val (.ref s_TERMINATING), .val (.ref s_COMMITTED)] (fun m => by first | (simp [entryFrame, mkF, argsToLocals, Value.category]; done) | rfl) ?_
  intro p e s m below meth c C
  refine Wl.st (g' := (mkF m 1 #[.val (.ref s_TERMINATING), .val (.ref s_COMMITTED)] [(.ref s_COMMITTED)])) (fun X t q => XS.aloadN X.here C.hx rfl (hb C.hby d3_0) rfl rfl q) ?_
  refine Wl.ldcA C (hw _ (List.mem_of_getElem? (i := 22) rfl)) (a := z) d3_1 ?_
  show Wl p l e _ s m _ below meth c n0 _ (some ("com/example/escrow/escrow/TransactionState", 57, z)) h0 0 0 (mkF m 3 #[.val (.ref s_TERMINATING), .val (.ref s_COMMITTED)] [(.ref z), (.ref s_COMMITTED)])
  refine Wl.callS C (z := (⟨"java/util/Objects", "requireNonNull", "(Ljava/lang/Object;Ljava/lang/String;)Ljava/lang/Object;"⟩ : MethodName)) (hw _ (List.mem_of_getElem? (i := 30) rfl)) (hw _ (List.mem_of_getElem? (i := 31) rfl)) (hw _ (List.mem_of_getElem? (i := 32) rfl)) (hw _ (List.mem_of_getElem? (i := 33) rfl)) (by decide) ((own_m4_12 l Z a0 hw n0 h0 s_CREATED s_PENDING s_COMMITTED s_FINISHED s_TERMINATING s_ROLLED_BACK EN z).toL (some ("com/example/escrow/escrow/TransactionState", 57, z))) (w := 0) (by decide) (by decide) pd_3 rfl (rest := []) rfl rfl (Nat.le_of_eq rfl) (by decide) (by decide) d3_3 ?_
  rintro _ _ _ ⟨⟨rfl, rfl⟩, rfl⟩
  show Wl p l e _ s m _ below meth c n0 _ (some ("com/example/escrow/escrow/TransactionState", 57, z)) h0 0 0 (mkF m 6 #[.val (.ref s_TERMINATING), .val (.ref s_COMMITTED)] [(.ref s_COMMITTED)])
  refine Wl.st (g' := (mkF m 7 #[.val (.ref s_TERMINATING), .val (.ref s_COMMITTED)] [])) (fun X t q => XS.pop X.here C.hx rfl (hb C.hby d3_6) rfl rfl q) ?_
  refine Wl.st (g' := (mkF m 8 #[.val (.ref s_TERMINATING), .val (.ref s_COMMITTED)] [(.ref s_TERMINATING)])) (fun X t q => XS.aloadN X.here C.hx rfl (hb C.hby d3_7) rfl rfl q) ?_
  refine Wl.callU C (x := (⟨"com/example/escrow/escrow/TransactionState", "ordinal", "()I"⟩ : MethodName)) (z := (⟨"java/lang/Enum", "ordinal", "()I"⟩ : MethodName)) (K := "com/example/escrow/escrow/TransactionState") (owner := "java/lang/Enum") (hw _ (List.mem_of_getElem? (i := 34) rfl)) (hw _ (List.mem_of_getElem? (i := 35) rfl)) (hw _ (List.mem_of_getElem? (i := 36) rfl)) (hw _ (List.mem_of_getElem? (i := 38) rfl)) (hw _ (List.mem_of_getElem? (i := 37) rfl)) (hw _ (List.mem_of_getElem? (i := 39) rfl)) (hw _ (List.mem_of_getElem? (i := 40) rfl)) (by decide) (en_E_TERMINATING EN) ((own_m5_35 l Z a0 hw n0 h0 s_CREATED s_PENDING s_COMMITTED s_FINISHED s_TERMINATING s_ROLLED_BACK EN ).toL (some ("com/example/escrow/escrow/TransactionState", 57, z))) (w := 0) (by decide) (by decide) pd_4 rfl (rest := []) rfl rfl (Nat.le_of_eq rfl) (by decide) (by decide) d3_8 ?_
  rintro _ _ _ ⟨⟨rfl, rfl⟩, rfl⟩
  show Wl p l e _ s m _ below meth c n0 _ (some ("com/example/escrow/escrow/TransactionState", 57, z)) h0 0 0 (mkF m 11 #[.val (.ref s_TERMINATING), .val (.ref s_COMMITTED)] [(.int (4 : Int32))])
  refine Wl.st (g' := (mkF m 117 #[.val (.ref s_TERMINATING), .val (.ref s_COMMITTED)] [])) (fun X t q => XS.tswIn X.here C.hx rfl (pc0 := 11) (pc' := 117) rfl (hb C.hby d3_11) rfl (by decide) (o := 106) rfl (by decide) (by decide) q) ?_
  refine Wl.st (g' := (mkF m 118 #[.val (.ref s_TERMINATING), .val (.ref s_COMMITTED)] [(.ref s_COMMITTED)])) (fun X t q => XS.aloadN X.here C.hx rfl (hb C.hby d3_117) rfl rfl q) ?_
  refine Wl.getS C (hw _ (List.mem_of_getElem? (i := 15) rfl)) (en_S_ROLLED_BACK EN) d3_118 ?_
  show Wl p l e _ s m _ below meth c n0 _ (some ("com/example/escrow/escrow/TransactionState", 57, z)) h0 0 0 (mkF m 121 #[.val (.ref s_TERMINATING), .val (.ref s_COMMITTED)] [(.ref s_ROLLED_BACK), (.ref s_COMMITTED)])
  refine Wl.st (g' := (mkF m 128 #[.val (.ref s_TERMINATING), .val (.ref s_COMMITTED)] [])) (fun X t q => Jvm.RoadKit.acmp (g := (mkF m 121 #[.val (.ref s_TERMINATING), .val (.ref s_COMMITTED)] [(.ref s_ROLLED_BACK), (.ref s_COMMITTED)])) X C.hx rfl rfl rfl (pc0 := 121) (pc' := 128) (same := false) rfl (hb C.hby d3_121) rfl (decide_eq_false fun q => (ne_fld (en_O_COMMITTED_ordinal EN) (en_O_ROLLED_BACK_ordinal EN) (by decide)) (Value.ref.inj q)) (by decide) (by decide) q) ?_
  refine Wl.st (g' := (mkF m 129 #[.val (.ref s_TERMINATING), .val (.ref s_COMMITTED)] [(.int (0 : Int32))])) (fun X t q => XS.iconst X.here C.hx rfl (hb C.hby d3_128) q) ?_
  refine Wl.st (g' := (mkF m 133 #[.val (.ref s_TERMINATING), .val (.ref s_COMMITTED)] [(.int (0 : Int32))])) (fun X t q => XS.goto X.here C.hx rfl (pc0 := 129) (pc' := 133) rfl (hb C.hby d3_129) (by decide) (by decide) q) ?_
  exact Wl.retV C (t := .boolean) rfl rfl (Or.inl ⟨rfl, by simp, _, rfl⟩) d3_133 (by decide) (by decide) ⟨rfl, rfl, rfl⟩
set_option maxRecDepth 65536 in
set_option maxHeartbeats 40000000 in
theorem own_c39 (l : Launch) (Z : State) (a0 : Array Value) (hw : ∀ d ∈ tables_1, d.before a0 Z = true) (n0 : Nat) (h0 : Heap) (s_CREATED s_PENDING s_COMMITTED s_FINISHED s_TERMINATING s_ROLLED_BACK : Addr) (EN : Enm Z h0 s_CREATED s_PENDING s_COMMITTED s_FINISHED s_TERMINATING s_ROLLED_BACK) (z : Addr) :
    MetL l Z n0 (⟨"com/example/escrow/escrow/TransactionState", "canMoveTo", "(Lcom/example/escrow/escrow/TransactionState;)Z"⟩ : MethodName) prog_34_method_7_code 2 (some .boolean) ({ frames := 1, cells := 0, slots := 0, locals := 13 } : Room) #[(.ref s_TERMINATING), (.ref s_FINISHED)] (some ("com/example/escrow/escrow/TransactionState", 57, z)) h0 (fun v h lt => v = some (.int (0 : Int32)) ∧ h0 = h ∧ lt = some ("com/example/escrow/escrow/TransactionState", 57, z)) := by
  refine MetL.of pn_1 #[.val (.ref s_TERMINATING), .val (.ref s_FINISHED)] (fun m => by first | (simp [entryFrame, mkF, argsToLocals, Value.category]; done) | rfl) ?_
  intro p e s m below meth c C
  refine Wl.st (g' := (mkF m 1 #[.val (.ref s_TERMINATING), .val (.ref s_FINISHED)] [(.ref s_FINISHED)])) (fun X t q => XS.aloadN X.here C.hx rfl (hb C.hby d3_0) rfl rfl q) ?_
  refine Wl.ldcA C (hw _ (List.mem_of_getElem? (i := 22) rfl)) (a := z) d3_1 ?_
  show Wl p l e _ s m _ below meth c n0 _ (some ("com/example/escrow/escrow/TransactionState", 57, z)) h0 0 0 (mkF m 3 #[.val (.ref s_TERMINATING), .val (.ref s_FINISHED)] [(.ref z), (.ref s_FINISHED)])
  refine Wl.callS C (z := (⟨"java/util/Objects", "requireNonNull", "(Ljava/lang/Object;Ljava/lang/String;)Ljava/lang/Object;"⟩ : MethodName)) (hw _ (List.mem_of_getElem? (i := 30) rfl)) (hw _ (List.mem_of_getElem? (i := 31) rfl)) (hw _ (List.mem_of_getElem? (i := 32) rfl)) (hw _ (List.mem_of_getElem? (i := 33) rfl)) (by decide) ((own_m4_20 l Z a0 hw n0 h0 s_CREATED s_PENDING s_COMMITTED s_FINISHED s_TERMINATING s_ROLLED_BACK EN z).toL (some ("com/example/escrow/escrow/TransactionState", 57, z))) (w := 0) (by decide) (by decide) pd_3 rfl (rest := []) rfl rfl (Nat.le_of_eq rfl) (by decide) (by decide) d3_3 ?_
  rintro _ _ _ ⟨⟨rfl, rfl⟩, rfl⟩
  show Wl p l e _ s m _ below meth c n0 _ (some ("com/example/escrow/escrow/TransactionState", 57, z)) h0 0 0 (mkF m 6 #[.val (.ref s_TERMINATING), .val (.ref s_FINISHED)] [(.ref s_FINISHED)])
  refine Wl.st (g' := (mkF m 7 #[.val (.ref s_TERMINATING), .val (.ref s_FINISHED)] [])) (fun X t q => XS.pop X.here C.hx rfl (hb C.hby d3_6) rfl rfl q) ?_
  refine Wl.st (g' := (mkF m 8 #[.val (.ref s_TERMINATING), .val (.ref s_FINISHED)] [(.ref s_TERMINATING)])) (fun X t q => XS.aloadN X.here C.hx rfl (hb C.hby d3_7) rfl rfl q) ?_
  refine Wl.callU C (x := (⟨"com/example/escrow/escrow/TransactionState", "ordinal", "()I"⟩ : MethodName)) (z := (⟨"java/lang/Enum", "ordinal", "()I"⟩ : MethodName)) (K := "com/example/escrow/escrow/TransactionState") (owner := "java/lang/Enum") (hw _ (List.mem_of_getElem? (i := 34) rfl)) (hw _ (List.mem_of_getElem? (i := 35) rfl)) (hw _ (List.mem_of_getElem? (i := 36) rfl)) (hw _ (List.mem_of_getElem? (i := 38) rfl)) (hw _ (List.mem_of_getElem? (i := 37) rfl)) (hw _ (List.mem_of_getElem? (i := 39) rfl)) (hw _ (List.mem_of_getElem? (i := 40) rfl)) (by decide) (en_E_TERMINATING EN) ((own_m5_35 l Z a0 hw n0 h0 s_CREATED s_PENDING s_COMMITTED s_FINISHED s_TERMINATING s_ROLLED_BACK EN ).toL (some ("com/example/escrow/escrow/TransactionState", 57, z))) (w := 0) (by decide) (by decide) pd_4 rfl (rest := []) rfl rfl (Nat.le_of_eq rfl) (by decide) (by decide) d3_8 ?_
  rintro _ _ _ ⟨⟨rfl, rfl⟩, rfl⟩
  show Wl p l e _ s m _ below meth c n0 _ (some ("com/example/escrow/escrow/TransactionState", 57, z)) h0 0 0 (mkF m 11 #[.val (.ref s_TERMINATING), .val (.ref s_FINISHED)] [(.int (4 : Int32))])
  refine Wl.st (g' := (mkF m 117 #[.val (.ref s_TERMINATING), .val (.ref s_FINISHED)] [])) (fun X t q => XS.tswIn X.here C.hx rfl (pc0 := 11) (pc' := 117) rfl (hb C.hby d3_11) rfl (by decide) (o := 106) rfl (by decide) (by decide) q) ?_
  refine Wl.st (g' := (mkF m 118 #[.val (.ref s_TERMINATING), .val (.ref s_FINISHED)] [(.ref s_FINISHED)])) (fun X t q => XS.aloadN X.here C.hx rfl (hb C.hby d3_117) rfl rfl q) ?_
  refine Wl.getS C (hw _ (List.mem_of_getElem? (i := 15) rfl)) (en_S_ROLLED_BACK EN) d3_118 ?_
  show Wl p l e _ s m _ below meth c n0 _ (some ("com/example/escrow/escrow/TransactionState", 57, z)) h0 0 0 (mkF m 121 #[.val (.ref s_TERMINATING), .val (.ref s_FINISHED)] [(.ref s_ROLLED_BACK), (.ref s_FINISHED)])
  refine Wl.st (g' := (mkF m 128 #[.val (.ref s_TERMINATING), .val (.ref s_FINISHED)] [])) (fun X t q => Jvm.RoadKit.acmp (g := (mkF m 121 #[.val (.ref s_TERMINATING), .val (.ref s_FINISHED)] [(.ref s_ROLLED_BACK), (.ref s_FINISHED)])) X C.hx rfl rfl rfl (pc0 := 121) (pc' := 128) (same := false) rfl (hb C.hby d3_121) rfl (decide_eq_false fun q => (ne_fld (en_O_FINISHED_ordinal EN) (en_O_ROLLED_BACK_ordinal EN) (by decide)) (Value.ref.inj q)) (by decide) (by decide) q) ?_
  refine Wl.st (g' := (mkF m 129 #[.val (.ref s_TERMINATING), .val (.ref s_FINISHED)] [(.int (0 : Int32))])) (fun X t q => XS.iconst X.here C.hx rfl (hb C.hby d3_128) q) ?_
  refine Wl.st (g' := (mkF m 133 #[.val (.ref s_TERMINATING), .val (.ref s_FINISHED)] [(.int (0 : Int32))])) (fun X t q => XS.goto X.here C.hx rfl (pc0 := 129) (pc' := 133) rfl (hb C.hby d3_129) (by decide) (by decide) q) ?_
  exact Wl.retV C (t := .boolean) rfl rfl (Or.inl ⟨rfl, by simp, _, rfl⟩) d3_133 (by decide) (by decide) ⟨rfl, rfl, rfl⟩
set_option maxRecDepth 65536 in
set_option maxHeartbeats 40000000 in
theorem own_c40 (l : Launch) (Z : State) (a0 : Array Value) (hw : ∀ d ∈ tables_1, d.before a0 Z = true) (n0 : Nat) (h0 : Heap) (s_CREATED s_PENDING s_COMMITTED s_FINISHED s_TERMINATING s_ROLLED_BACK : Addr) (EN : Enm Z h0 s_CREATED s_PENDING s_COMMITTED s_FINISHED s_TERMINATING s_ROLLED_BACK) (z : Addr) :
    MetL l Z n0 (⟨"com/example/escrow/escrow/TransactionState", "canMoveTo", "(Lcom/example/escrow/escrow/TransactionState;)Z"⟩ : MethodName) prog_34_method_7_code 2 (some .boolean) ({ frames := 1, cells := 0, slots := 0, locals := 13 } : Room) #[(.ref s_TERMINATING), (.ref s_TERMINATING)] (some ("com/example/escrow/escrow/TransactionState", 57, z)) h0 (fun v h lt => v = some (.int (0 : Int32)) ∧ h0 = h ∧ lt = some ("com/example/escrow/escrow/TransactionState", 57, z)) := by
  refine MetL.of pn_1 #[.val (.ref s_TERMINATING), .val (.ref s_TERMINATING)] (fun m => by first | (simp [entryFrame, mkF, argsToLocals, Value.category]; done) | rfl) ?_
  intro p e s m below meth c C
  refine Wl.st (g' := (mkF m 1 #[.val (.ref s_TERMINATING), .val (.ref s_TERMINATING)] [(.ref s_TERMINATING)])) (fun X t q => XS.aloadN X.here C.hx rfl (hb C.hby d3_0) rfl rfl q) ?_
  refine Wl.ldcA C (hw _ (List.mem_of_getElem? (i := 22) rfl)) (a := z) d3_1 ?_
  show Wl p l e _ s m _ below meth c n0 _ (some ("com/example/escrow/escrow/TransactionState", 57, z)) h0 0 0 (mkF m 3 #[.val (.ref s_TERMINATING), .val (.ref s_TERMINATING)] [(.ref z), (.ref s_TERMINATING)])
  refine Wl.callS C (z := (⟨"java/util/Objects", "requireNonNull", "(Ljava/lang/Object;Ljava/lang/String;)Ljava/lang/Object;"⟩ : MethodName)) (hw _ (List.mem_of_getElem? (i := 30) rfl)) (hw _ (List.mem_of_getElem? (i := 31) rfl)) (hw _ (List.mem_of_getElem? (i := 32) rfl)) (hw _ (List.mem_of_getElem? (i := 33) rfl)) (by decide) ((own_m4_29 l Z a0 hw n0 h0 s_CREATED s_PENDING s_COMMITTED s_FINISHED s_TERMINATING s_ROLLED_BACK EN z).toL (some ("com/example/escrow/escrow/TransactionState", 57, z))) (w := 0) (by decide) (by decide) pd_3 rfl (rest := []) rfl rfl (Nat.le_of_eq rfl) (by decide) (by decide) d3_3 ?_
  rintro _ _ _ ⟨⟨rfl, rfl⟩, rfl⟩
  show Wl p l e _ s m _ below meth c n0 _ (some ("com/example/escrow/escrow/TransactionState", 57, z)) h0 0 0 (mkF m 6 #[.val (.ref s_TERMINATING), .val (.ref s_TERMINATING)] [(.ref s_TERMINATING)])
  refine Wl.st (g' := (mkF m 7 #[.val (.ref s_TERMINATING), .val (.ref s_TERMINATING)] [])) (fun X t q => XS.pop X.here C.hx rfl (hb C.hby d3_6) rfl rfl q) ?_
  refine Wl.st (g' := (mkF m 8 #[.val (.ref s_TERMINATING), .val (.ref s_TERMINATING)] [(.ref s_TERMINATING)])) (fun X t q => XS.aloadN X.here C.hx rfl (hb C.hby d3_7) rfl rfl q) ?_
  refine Wl.callU C (x := (⟨"com/example/escrow/escrow/TransactionState", "ordinal", "()I"⟩ : MethodName)) (z := (⟨"java/lang/Enum", "ordinal", "()I"⟩ : MethodName)) (K := "com/example/escrow/escrow/TransactionState") (owner := "java/lang/Enum") (hw _ (List.mem_of_getElem? (i := 34) rfl)) (hw _ (List.mem_of_getElem? (i := 35) rfl)) (hw _ (List.mem_of_getElem? (i := 36) rfl)) (hw _ (List.mem_of_getElem? (i := 38) rfl)) (hw _ (List.mem_of_getElem? (i := 37) rfl)) (hw _ (List.mem_of_getElem? (i := 39) rfl)) (hw _ (List.mem_of_getElem? (i := 40) rfl)) (by decide) (en_E_TERMINATING EN) ((own_m5_35 l Z a0 hw n0 h0 s_CREATED s_PENDING s_COMMITTED s_FINISHED s_TERMINATING s_ROLLED_BACK EN ).toL (some ("com/example/escrow/escrow/TransactionState", 57, z))) (w := 0) (by decide) (by decide) pd_4 rfl (rest := []) rfl rfl (Nat.le_of_eq rfl) (by decide) (by decide) d3_8 ?_
  rintro _ _ _ ⟨⟨rfl, rfl⟩, rfl⟩
  show Wl p l e _ s m _ below meth c n0 _ (some ("com/example/escrow/escrow/TransactionState", 57, z)) h0 0 0 (mkF m 11 #[.val (.ref s_TERMINATING), .val (.ref s_TERMINATING)] [(.int (4 : Int32))])
  refine Wl.st (g' := (mkF m 117 #[.val (.ref s_TERMINATING), .val (.ref s_TERMINATING)] [])) (fun X t q => XS.tswIn X.here C.hx rfl (pc0 := 11) (pc' := 117) rfl (hb C.hby d3_11) rfl (by decide) (o := 106) rfl (by decide) (by decide) q) ?_
  refine Wl.st (g' := (mkF m 118 #[.val (.ref s_TERMINATING), .val (.ref s_TERMINATING)] [(.ref s_TERMINATING)])) (fun X t q => XS.aloadN X.here C.hx rfl (hb C.hby d3_117) rfl rfl q) ?_
  refine Wl.getS C (hw _ (List.mem_of_getElem? (i := 15) rfl)) (en_S_ROLLED_BACK EN) d3_118 ?_
  show Wl p l e _ s m _ below meth c n0 _ (some ("com/example/escrow/escrow/TransactionState", 57, z)) h0 0 0 (mkF m 121 #[.val (.ref s_TERMINATING), .val (.ref s_TERMINATING)] [(.ref s_ROLLED_BACK), (.ref s_TERMINATING)])
  refine Wl.st (g' := (mkF m 128 #[.val (.ref s_TERMINATING), .val (.ref s_TERMINATING)] [])) (fun X t q => Jvm.RoadKit.acmp (g := (mkF m 121 #[.val (.ref s_TERMINATING), .val (.ref s_TERMINATING)] [(.ref s_ROLLED_BACK), (.ref s_TERMINATING)])) X C.hx rfl rfl rfl (pc0 := 121) (pc' := 128) (same := false) rfl (hb C.hby d3_121) rfl (decide_eq_false fun q => (ne_fld (en_O_TERMINATING_ordinal EN) (en_O_ROLLED_BACK_ordinal EN) (by decide)) (Value.ref.inj q)) (by decide) (by decide) q) ?_
  refine Wl.st (g' := (mkF m 129 #[.val (.ref s_TERMINATING), .val (.ref s_TERMINATING)] [(.int (0 : Int32))])) (fun X t q => XS.iconst X.here C.hx rfl (hb C.hby d3_128) q) ?_
  refine Wl.st (g' := (mkF m 133 #[.val (.ref s_TERMINATING), .val (.ref s_TERMINATING)] [(.int (0 : Int32))])) (fun X t q => XS.goto X.here C.hx rfl (pc0 := 129) (pc' := 133) rfl (hb C.hby d3_129) (by decide) (by decide) q) ?_
  exact Wl.retV C (t := .boolean) rfl rfl (Or.inl ⟨rfl, by simp, _, rfl⟩) d3_133 (by decide) (by decide) ⟨rfl, rfl, rfl⟩
set_option maxRecDepth 65536 in
set_option maxHeartbeats 40000000 in
theorem own_c41 (l : Launch) (Z : State) (a0 : Array Value) (hw : ∀ d ∈ tables_1, d.before a0 Z = true) (n0 : Nat) (h0 : Heap) (s_CREATED s_PENDING s_COMMITTED s_FINISHED s_TERMINATING s_ROLLED_BACK : Addr) (EN : Enm Z h0 s_CREATED s_PENDING s_COMMITTED s_FINISHED s_TERMINATING s_ROLLED_BACK) (z : Addr) :
    MetL l Z n0 (⟨"com/example/escrow/escrow/TransactionState", "canMoveTo", "(Lcom/example/escrow/escrow/TransactionState;)Z"⟩ : MethodName) prog_34_method_7_code 2 (some .boolean) ({ frames := 1, cells := 0, slots := 0, locals := 13 } : Room) #[(.ref s_TERMINATING), (.ref s_ROLLED_BACK)] (some ("com/example/escrow/escrow/TransactionState", 57, z)) h0 (fun v h lt => v = some (.int (1 : Int32)) ∧ h0 = h ∧ lt = some ("com/example/escrow/escrow/TransactionState", 57, z)) := by
  refine MetL.of pn_1 #[.val (.ref s_TERMINATING), .val (.ref s_ROLLED_BACK)] (fun m => by first | (simp [entryFrame, mkF, argsToLocals, Value.category]; done) | rfl) ?_
  intro p e s m below meth c C
  refine Wl.st (g' := (mkF m 1 #[.val (.ref s_TERMINATING), .val (.ref s_ROLLED_BACK)] [(.ref s_ROLLED_BACK)])) (fun X t q => XS.aloadN X.here C.hx rfl (hb C.hby d3_0) rfl rfl q) ?_
  refine Wl.ldcA C (hw _ (List.mem_of_getElem? (i := 22) rfl)) (a := z) d3_1 ?_
  show Wl p l e _ s m _ below meth c n0 _ (some ("com/example/escrow/escrow/TransactionState", 57, z)) h0 0 0 (mkF m 3 #[.val (.ref s_TERMINATING), .val (.ref s_ROLLED_BACK)] [(.ref z), (.ref s_ROLLED_BACK)])
  refine Wl.callS C (z := (⟨"java/util/Objects", "requireNonNull", "(Ljava/lang/Object;Ljava/lang/String;)Ljava/lang/Object;"⟩ : MethodName)) (hw _ (List.mem_of_getElem? (i := 30) rfl)) (hw _ (List.mem_of_getElem? (i := 31) rfl)) (hw _ (List.mem_of_getElem? (i := 32) rfl)) (hw _ (List.mem_of_getElem? (i := 33) rfl)) (by decide) ((own_m4_31 l Z a0 hw n0 h0 s_CREATED s_PENDING s_COMMITTED s_FINISHED s_TERMINATING s_ROLLED_BACK EN z).toL (some ("com/example/escrow/escrow/TransactionState", 57, z))) (w := 0) (by decide) (by decide) pd_3 rfl (rest := []) rfl rfl (Nat.le_of_eq rfl) (by decide) (by decide) d3_3 ?_
  rintro _ _ _ ⟨⟨rfl, rfl⟩, rfl⟩
  show Wl p l e _ s m _ below meth c n0 _ (some ("com/example/escrow/escrow/TransactionState", 57, z)) h0 0 0 (mkF m 6 #[.val (.ref s_TERMINATING), .val (.ref s_ROLLED_BACK)] [(.ref s_ROLLED_BACK)])
  refine Wl.st (g' := (mkF m 7 #[.val (.ref s_TERMINATING), .val (.ref s_ROLLED_BACK)] [])) (fun X t q => XS.pop X.here C.hx rfl (hb C.hby d3_6) rfl rfl q) ?_
  refine Wl.st (g' := (mkF m 8 #[.val (.ref s_TERMINATING), .val (.ref s_ROLLED_BACK)] [(.ref s_TERMINATING)])) (fun X t q => XS.aloadN X.here C.hx rfl (hb C.hby d3_7) rfl rfl q) ?_
  refine Wl.callU C (x := (⟨"com/example/escrow/escrow/TransactionState", "ordinal", "()I"⟩ : MethodName)) (z := (⟨"java/lang/Enum", "ordinal", "()I"⟩ : MethodName)) (K := "com/example/escrow/escrow/TransactionState") (owner := "java/lang/Enum") (hw _ (List.mem_of_getElem? (i := 34) rfl)) (hw _ (List.mem_of_getElem? (i := 35) rfl)) (hw _ (List.mem_of_getElem? (i := 36) rfl)) (hw _ (List.mem_of_getElem? (i := 38) rfl)) (hw _ (List.mem_of_getElem? (i := 37) rfl)) (hw _ (List.mem_of_getElem? (i := 39) rfl)) (hw _ (List.mem_of_getElem? (i := 40) rfl)) (by decide) (en_E_TERMINATING EN) ((own_m5_35 l Z a0 hw n0 h0 s_CREATED s_PENDING s_COMMITTED s_FINISHED s_TERMINATING s_ROLLED_BACK EN ).toL (some ("com/example/escrow/escrow/TransactionState", 57, z))) (w := 0) (by decide) (by decide) pd_4 rfl (rest := []) rfl rfl (Nat.le_of_eq rfl) (by decide) (by decide) d3_8 ?_
  rintro _ _ _ ⟨⟨rfl, rfl⟩, rfl⟩
  show Wl p l e _ s m _ below meth c n0 _ (some ("com/example/escrow/escrow/TransactionState", 57, z)) h0 0 0 (mkF m 11 #[.val (.ref s_TERMINATING), .val (.ref s_ROLLED_BACK)] [(.int (4 : Int32))])
  refine Wl.st (g' := (mkF m 117 #[.val (.ref s_TERMINATING), .val (.ref s_ROLLED_BACK)] [])) (fun X t q => XS.tswIn X.here C.hx rfl (pc0 := 11) (pc' := 117) rfl (hb C.hby d3_11) rfl (by decide) (o := 106) rfl (by decide) (by decide) q) ?_
  refine Wl.st (g' := (mkF m 118 #[.val (.ref s_TERMINATING), .val (.ref s_ROLLED_BACK)] [(.ref s_ROLLED_BACK)])) (fun X t q => XS.aloadN X.here C.hx rfl (hb C.hby d3_117) rfl rfl q) ?_
  refine Wl.getS C (hw _ (List.mem_of_getElem? (i := 15) rfl)) (en_S_ROLLED_BACK EN) d3_118 ?_
  show Wl p l e _ s m _ below meth c n0 _ (some ("com/example/escrow/escrow/TransactionState", 57, z)) h0 0 0 (mkF m 121 #[.val (.ref s_TERMINATING), .val (.ref s_ROLLED_BACK)] [(.ref s_ROLLED_BACK), (.ref s_ROLLED_BACK)])
  refine Wl.st (g' := (mkF m 124 #[.val (.ref s_TERMINATING), .val (.ref s_ROLLED_BACK)] [])) (fun X t q => Jvm.RoadKit.acmp (g := (mkF m 121 #[.val (.ref s_TERMINATING), .val (.ref s_ROLLED_BACK)] [(.ref s_ROLLED_BACK), (.ref s_ROLLED_BACK)])) X C.hx rfl rfl rfl (pc0 := 121) (pc' := 124) (same := true) rfl (hb C.hby d3_121) rfl (decide_eq_true (congrArg Value.ref rfl)) (by decide) (by decide) q) ?_
  refine Wl.st (g' := (mkF m 125 #[.val (.ref s_TERMINATING), .val (.ref s_ROLLED_BACK)] [(.int (1 : Int32))])) (fun X t q => XS.iconst X.here C.hx rfl (hb C.hby d3_124) q) ?_
  refine Wl.st (g' := (mkF m 133 #[.val (.ref s_TERMINATING), .val (.ref s_ROLLED_BACK)] [(.int (1 : Int32))])) (fun X t q => XS.goto X.here C.hx rfl (pc0 := 125) (pc' := 133) rfl (hb C.hby d3_125) (by decide) (by decide) q) ?_
  exact Wl.retV C (t := .boolean) rfl rfl (Or.inl ⟨rfl, by simp, _, rfl⟩) d3_133 (by decide) (by decide) ⟨rfl, rfl, rfl⟩
set_option maxRecDepth 65536 in
set_option maxHeartbeats 40000000 in
theorem own_m1_42 (l : Launch) (Z : State) (a0 : Array Value) (hw : ∀ d ∈ tables_1, d.before a0 Z = true) (n0 : Nat) (h0 : Heap) (s_CREATED s_PENDING s_COMMITTED s_FINISHED s_TERMINATING s_ROLLED_BACK : Addr) (EN : Enm Z h0 s_CREATED s_PENDING s_COMMITTED s_FINISHED s_TERMINATING s_ROLLED_BACK) :
    Met true l Z n0 (⟨"com/example/escrow/escrow/TransactionStateIsEndedPinLaw", "pick", "(I)Lcom/example/escrow/escrow/TransactionState;"⟩ : MethodName) method_2_code 1 (some (.object "com/example/escrow/escrow/TransactionState")) ({ frames := 0, cells := 0, slots := 0, locals := 0 } : Room) #[(.int (5 : Int32))] h0 (fun v h => v = some (.ref s_ROLLED_BACK) ∧ h0 = h) := by
  refine Met.of pn_0 #[.val (.int (5 : Int32))] (fun m => by first | (simp [entryFrame, mkF, argsToLocals, Value.category]; done) | rfl) ?_
  intro p e s m below meth c C
  refine Wk.st (g' := (mkF m 1 #[.val (.int (5 : Int32))] [(.int (5 : Int32))])) (fun X t q => XS.iloadN X.here C.hx rfl (hb C.hby d1_0) rfl q) ?_
  refine Wk.st (g' := (mkF m 8 #[.val (.int (5 : Int32))] [])) (fun X t q => XS.ifYes X.here C.hx rfl (pc0 := 1) (pc' := 8) rfl (hb C.hby d1_1) rfl (XT.i0_ne_t (by decide)) (by decide) (by decide) q) ?_
  refine Wk.st (g' := (mkF m 9 #[.val (.int (5 : Int32))] [(.int (5 : Int32))])) (fun X t q => XS.iloadN X.here C.hx rfl (hb C.hby d1_8) rfl q) ?_
  refine Wk.st (g' := (mkF m 10 #[.val (.int (5 : Int32))] [(.int (1 : Int32)), (.int (5 : Int32))])) (fun X t q => XS.iconst X.here C.hx rfl (hb C.hby d1_9) q) ?_
  refine Wk.st (g' := (mkF m 17 #[.val (.int (5 : Int32))] [])) (fun X t q => XS.icmpYes X.here C.hx rfl (pc0 := 10) (pc' := 17) rfl (hb C.hby d1_10) rfl (XT.ii_ne_t (by decide)) (by decide) (by decide) q) ?_
  refine Wk.st (g' := (mkF m 18 #[.val (.int (5 : Int32))] [(.int (5 : Int32))])) (fun X t q => XS.iloadN X.here C.hx rfl (hb C.hby d1_17) rfl q) ?_
  refine Wk.st (g' := (mkF m 19 #[.val (.int (5 : Int32))] [(.int (2 : Int32)), (.int (5 : Int32))])) (fun X t q => XS.iconst X.here C.hx rfl (hb C.hby d1_18) q) ?_
  refine Wk.st (g' := (mkF m 26 #[.val (.int (5 : Int32))] [])) (fun X t q => XS.icmpYes X.here C.hx rfl (pc0 := 19) (pc' := 26) rfl (hb C.hby d1_19) rfl (XT.ii_ne_t (by decide)) (by decide) (by decide) q) ?_
  refine Wk.st (g' := (mkF m 27 #[.val (.int (5 : Int32))] [(.int (5 : Int32))])) (fun X t q => XS.iloadN X.here C.hx rfl (hb C.hby d1_26) rfl q) ?_
  refine Wk.st (g' := (mkF m 28 #[.val (.int (5 : Int32))] [(.int (3 : Int32)), (.int (5 : Int32))])) (fun X t q => XS.iconst X.here C.hx rfl (hb C.hby d1_27) q) ?_
  refine Wk.st (g' := (mkF m 35 #[.val (.int (5 : Int32))] [])) (fun X t q => XS.icmpYes X.here C.hx rfl (pc0 := 28) (pc' := 35) rfl (hb C.hby d1_28) rfl (XT.ii_ne_t (by decide)) (by decide) (by decide) q) ?_
  refine Wk.st (g' := (mkF m 36 #[.val (.int (5 : Int32))] [(.int (5 : Int32))])) (fun X t q => XS.iloadN X.here C.hx rfl (hb C.hby d1_35) rfl q) ?_
  refine Wk.st (g' := (mkF m 37 #[.val (.int (5 : Int32))] [(.int (4 : Int32)), (.int (5 : Int32))])) (fun X t q => XS.iconst X.here C.hx rfl (hb C.hby d1_36) q) ?_
  refine Wk.st (g' := (mkF m 44 #[.val (.int (5 : Int32))] [])) (fun X t q => XS.icmpYes X.here C.hx rfl (pc0 := 37) (pc' := 44) rfl (hb C.hby d1_37) rfl (XT.ii_ne_t (by decide)) (by decide) (by decide) q) ?_
  refine Wk.getS C (hw _ (List.mem_of_getElem? (i := 52) rfl)) (en_S_ROLLED_BACK EN) d1_44 ?_
  show Wk _ p l e _ s m _ below meth c n0 _ h0 0 0 (mkF m 47 #[.val (.int (5 : Int32))] [(.ref s_ROLLED_BACK)])
  exact Wk.retV C (t := (.object "com/example/escrow/escrow/TransactionState")) rfl rfl (Or.inr (Or.inr (Or.inr (Or.inr ⟨rfl, rfl, rfl⟩)))) d1_47 (by decide) (by decide) ⟨rfl, rfl⟩
set_option maxRecDepth 65536 in
set_option maxHeartbeats 40000000 in
theorem own_m2_43 (l : Launch) (Z : State) (a0 : Array Value) (hw : ∀ d ∈ tables_1, d.before a0 Z = true) (n0 : Nat) (h0 : Heap) (s_CREATED s_PENDING s_COMMITTED s_FINISHED s_TERMINATING s_ROLLED_BACK : Addr) (EN : Enm Z h0 s_CREATED s_PENDING s_COMMITTED s_FINISHED s_TERMINATING s_ROLLED_BACK) :
    Met true l Z n0 (⟨"com/example/escrow/escrow/TransactionState", "isEnded", "()Z"⟩ : MethodName) prog_34_method_6_code 1 (some .boolean) ({ frames := 0, cells := 0, slots := 0, locals := 0 } : Room) #[(.ref s_ROLLED_BACK)] h0 (fun v h => v = some (.int (1 : Int32)) ∧ h0 = h) := by
  refine Met.of pn_1 #[.val (.ref s_ROLLED_BACK)] (fun m => by first | (simp [entryFrame, mkF, argsToLocals, Value.category]; done) | rfl) ?_
  intro p e s m below meth c C
  refine Wk.st (g' := (mkF m 1 #[.val (.ref s_ROLLED_BACK)] [(.ref s_ROLLED_BACK)])) (fun X t q => XS.aloadN X.here C.hx rfl (hb C.hby d2_0) rfl rfl q) ?_
  refine Wk.getS C (hw _ (List.mem_of_getElem? (i := 13) rfl)) (en_S_FINISHED EN) d2_1 ?_
  show Wk _ p l e _ s m _ below meth c n0 _ h0 0 0 (mkF m 4 #[.val (.ref s_ROLLED_BACK)] [(.ref s_FINISHED), (.ref s_ROLLED_BACK)])
  refine Wk.st (g' := (mkF m 7 #[.val (.ref s_ROLLED_BACK)] [])) (fun X t q => Jvm.RoadKit.acmp (g := (mkF m 4 #[.val (.ref s_ROLLED_BACK)] [(.ref s_FINISHED), (.ref s_ROLLED_BACK)])) X C.hx rfl rfl rfl (pc0 := 4) (pc' := 7) (same := false) rfl (hb C.hby d2_4) rfl (decide_eq_false fun q => (ne_fld (en_O_ROLLED_BACK_ordinal EN) (en_O_FINISHED_ordinal EN) (by decide)) (Value.ref.inj q)) (by decide) (by decide) q) ?_
  refine Wk.st (g' := (mkF m 8 #[.val (.ref s_ROLLED_BACK)] [(.ref s_ROLLED_BACK)])) (fun X t q => XS.aloadN X.here C.hx rfl (hb C.hby d2_7) rfl rfl q) ?_
  refine Wk.getS C (hw _ (List.mem_of_getElem? (i := 15) rfl)) (en_S_ROLLED_BACK EN) d2_8 ?_
  show Wk _ p l e _ s m _ below meth c n0 _ h0 0 0 (mkF m 11 #[.val (.ref s_ROLLED_BACK)] [(.ref s_ROLLED_BACK), (.ref s_ROLLED_BACK)])
  refine Wk.st (g' := (mkF m 14 #[.val (.ref s_ROLLED_BACK)] [])) (fun X t q => Jvm.RoadKit.acmp (g := (mkF m 11 #[.val (.ref s_ROLLED_BACK)] [(.ref s_ROLLED_BACK), (.ref s_ROLLED_BACK)])) X C.hx rfl rfl rfl (pc0 := 11) (pc' := 14) (same := true) rfl (hb C.hby d2_11) rfl (decide_eq_true (congrArg Value.ref rfl)) (by decide) (by decide) q) ?_
  refine Wk.st (g' := (mkF m 15 #[.val (.ref s_ROLLED_BACK)] [(.int (1 : Int32))])) (fun X t q => XS.iconst X.here C.hx rfl (hb C.hby d2_14) q) ?_
  refine Wk.st (g' := (mkF m 19 #[.val (.ref s_ROLLED_BACK)] [(.int (1 : Int32))])) (fun X t q => XS.goto X.here C.hx rfl (pc0 := 15) (pc' := 19) rfl (hb C.hby d2_15) (by decide) (by decide) q) ?_
  exact Wk.retV C (t := .boolean) rfl rfl (Or.inl ⟨rfl, by simp, _, rfl⟩) d2_19 (by decide) (by decide) ⟨rfl, rfl⟩
set_option maxRecDepth 65536 in
set_option maxHeartbeats 40000000 in
theorem own_m5_44 (l : Launch) (Z : State) (a0 : Array Value) (hw : ∀ d ∈ tables_1, d.before a0 Z = true) (n0 : Nat) (h0 : Heap) (s_CREATED s_PENDING s_COMMITTED s_FINISHED s_TERMINATING s_ROLLED_BACK : Addr) (EN : Enm Z h0 s_CREATED s_PENDING s_COMMITTED s_FINISHED s_TERMINATING s_ROLLED_BACK) :
    Met true l Z n0 (⟨"java/lang/Enum", "ordinal", "()I"⟩ : MethodName) jdk_37_method_2_code 1 (some .int) ({ frames := 0, cells := 0, slots := 0, locals := 0 } : Room) #[(.ref s_ROLLED_BACK)] h0 (fun v h => v = some (.int (5 : Int32)) ∧ h0 = h) := by
  refine Met.of pn_3 #[.val (.ref s_ROLLED_BACK)] (fun m => by first | (simp [entryFrame, mkF, argsToLocals, Value.category]; done) | rfl) ?_
  intro p e s m below meth c C
  refine Wk.st (g' := (mkF m 1 #[.val (.ref s_ROLLED_BACK)] [(.ref s_ROLLED_BACK)])) (fun X t q => XS.aloadN X.here C.hx rfl (hb C.hby d5_0) rfl rfl q) ?_
  refine Wk.getF C (hw _ (List.mem_of_getElem? (i := 41) rfl)) Via.refl (en_O_ROLLED_BACK_ordinal EN) d5_1 ?_
  show Wk _ p l e _ s m _ below meth c n0 _ h0 0 0 (mkF m 4 #[.val (.ref s_ROLLED_BACK)] [(.int (5 : Int32))])
  exact Wk.retV C (t := .int) rfl rfl (Or.inl ⟨rfl, by simp, _, rfl⟩) d5_4 (by decide) (by decide) ⟨rfl, rfl⟩
set_option maxRecDepth 65536 in
set_option maxHeartbeats 40000000 in
theorem own_c44 (l : Launch) (Z : State) (a0 : Array Value) (hw : ∀ d ∈ tables_1, d.before a0 Z = true) (n0 : Nat) (h0 : Heap) (s_CREATED s_PENDING s_COMMITTED s_FINISHED s_TERMINATING s_ROLLED_BACK : Addr) (EN : Enm Z h0 s_CREATED s_PENDING s_COMMITTED s_FINISHED s_TERMINATING s_ROLLED_BACK) :
    MetL l Z n0 (⟨"com/example/escrow/escrow/TransactionState", "canMoveTo", "(Lcom/example/escrow/escrow/TransactionState;)Z"⟩ : MethodName) prog_34_method_7_code 2 (some .boolean) ({ frames := 1, cells := 2, slots := 20, locals := 13 } : Room) #[(.ref s_ROLLED_BACK), (.ref s_CREATED)] none h0 (fun v h lt => v = some (.int (0 : Int32)) ∧ Ext h0 h ∧ ∃ a, lt = some ("com/example/escrow/escrow/TransactionState", 57, a)) := by
  refine MetL.of pn_1 #[.val (.ref s_ROLLED_BACK), .val (.ref s_CREATED)] (fun m => by first | (simp [entryFrame, mkF, argsToLocals, Value.category]; done) | rfl) ?_
  intro p e s m below meth c C
  refine Wl.st (g' := (mkF m 1 #[.val (.ref s_ROLLED_BACK), .val (.ref s_CREATED)] [(.ref s_CREATED)])) (fun X t q => XS.aloadN X.here C.hx rfl (hb C.hby d3_0) rfl rfl q) ?_
  refine Wl.ldcS C (hw _ (List.mem_of_getElem? (i := 22) rfl)) (own_wS hw) (N := 16) (by decide) (by decide) d3_1 (by decide) (by decide) ?_
  intro h1 a2 E3
  show Wl p l e _ s m _ below meth c n0 _ (some ("com/example/escrow/escrow/TransactionState", 57, a2)) h1 2 20 (mkF m 3 #[.val (.ref s_ROLLED_BACK), .val (.ref s_CREATED)] [(.ref a2), (.ref s_CREATED)])
  refine Wl.callS C (z := (⟨"java/util/Objects", "requireNonNull", "(Ljava/lang/Object;Ljava/lang/String;)Ljava/lang/Object;"⟩ : MethodName)) (hw _ (List.mem_of_getElem? (i := 30) rfl)) (hw _ (List.mem_of_getElem? (i := 31) rfl)) (hw _ (List.mem_of_getElem? (i := 32) rfl)) (hw _ (List.mem_of_getElem? (i := 33) rfl)) (by decide) ((own_m4_2 l Z a0 hw n0 h1 s_CREATED s_PENDING s_COMMITTED s_FINISHED s_TERMINATING s_ROLLED_BACK (EN.ext E3) a2).toL (some ("com/example/escrow/escrow/TransactionState", 57, a2))) (w := 0) (by decide) (by decide) pd_3 rfl (rest := []) rfl rfl (Nat.le_of_eq rfl) (by decide) (by decide) d3_3 ?_
  rintro _ _ _ ⟨⟨rfl, rfl⟩, rfl⟩
  show Wl p l e _ s m _ below meth c n0 _ (some ("com/example/escrow/escrow/TransactionState", 57, a2)) h1 2 20 (mkF m 6 #[.val (.ref s_ROLLED_BACK), .val (.ref s_CREATED)] [(.ref s_CREATED)])
  refine Wl.st (g' := (mkF m 7 #[.val (.ref s_ROLLED_BACK), .val (.ref s_CREATED)] [])) (fun X t q => XS.pop X.here C.hx rfl (hb C.hby d3_6) rfl rfl q) ?_
  refine Wl.st (g' := (mkF m 8 #[.val (.ref s_ROLLED_BACK), .val (.ref s_CREATED)] [(.ref s_ROLLED_BACK)])) (fun X t q => XS.aloadN X.here C.hx rfl (hb C.hby d3_7) rfl rfl q) ?_
  refine Wl.callU C (x := (⟨"com/example/escrow/escrow/TransactionState", "ordinal", "()I"⟩ : MethodName)) (z := (⟨"java/lang/Enum", "ordinal", "()I"⟩ : MethodName)) (K := "com/example/escrow/escrow/TransactionState") (owner := "java/lang/Enum") (hw _ (List.mem_of_getElem? (i := 34) rfl)) (hw _ (List.mem_of_getElem? (i := 35) rfl)) (hw _ (List.mem_of_getElem? (i := 36) rfl)) (hw _ (List.mem_of_getElem? (i := 38) rfl)) (hw _ (List.mem_of_getElem? (i := 37) rfl)) (hw _ (List.mem_of_getElem? (i := 39) rfl)) (hw _ (List.mem_of_getElem? (i := 40) rfl)) (by decide) (en_E_ROLLED_BACK (EN.ext E3)) ((own_m5_44 l Z a0 hw n0 h1 s_CREATED s_PENDING s_COMMITTED s_FINISHED s_TERMINATING s_ROLLED_BACK (EN.ext E3) ).toL (some ("com/example/escrow/escrow/TransactionState", 57, a2))) (w := 0) (by decide) (by decide) pd_4 rfl (rest := []) rfl rfl (Nat.le_of_eq rfl) (by decide) (by decide) d3_8 ?_
  rintro _ _ _ ⟨⟨rfl, rfl⟩, rfl⟩
  show Wl p l e _ s m _ below meth c n0 _ (some ("com/example/escrow/escrow/TransactionState", 57, a2)) h1 2 20 (mkF m 11 #[.val (.ref s_ROLLED_BACK), .val (.ref s_CREATED)] [(.int (5 : Int32))])
  refine Wl.st (g' := (mkF m 132 #[.val (.ref s_ROLLED_BACK), .val (.ref s_CREATED)] [])) (fun X t q => XS.tswIn X.here C.hx rfl (pc0 := 11) (pc' := 132) rfl (hb C.hby d3_11) rfl (by decide) (o := 121) rfl (by decide) (by decide) q) ?_
  refine Wl.st (g' := (mkF m 133 #[.val (.ref s_ROLLED_BACK), .val (.ref s_CREATED)] [(.int (0 : Int32))])) (fun X t q => XS.iconst X.here C.hx rfl (hb C.hby d3_132) q) ?_
  exact Wl.retV C (t := .boolean) rfl rfl (Or.inl ⟨rfl, by simp, _, rfl⟩) d3_133 (by decide) (by decide) ⟨rfl, E3, a2, rfl⟩
set_option maxRecDepth 65536 in
set_option maxHeartbeats 40000000 in
theorem own_c46 (l : Launch) (Z : State) (a0 : Array Value) (hw : ∀ d ∈ tables_1, d.before a0 Z = true) (n0 : Nat) (h0 : Heap) (s_CREATED s_PENDING s_COMMITTED s_FINISHED s_TERMINATING s_ROLLED_BACK : Addr) (EN : Enm Z h0 s_CREATED s_PENDING s_COMMITTED s_FINISHED s_TERMINATING s_ROLLED_BACK) (z : Addr) :
    MetL l Z n0 (⟨"com/example/escrow/escrow/TransactionState", "canMoveTo", "(Lcom/example/escrow/escrow/TransactionState;)Z"⟩ : MethodName) prog_34_method_7_code 2 (some .boolean) ({ frames := 1, cells := 0, slots := 0, locals := 13 } : Room) #[(.ref s_ROLLED_BACK), (.ref s_PENDING)] (some ("com/example/escrow/escrow/TransactionState", 57, z)) h0 (fun v h lt => v = some (.int (0 : Int32)) ∧ h0 = h ∧ lt = some ("com/example/escrow/escrow/TransactionState", 57, z)) := by
  refine MetL.of pn_1 #[.val (.ref s_ROLLED_BACK), .val (.ref s_PENDING)] (fun m => by first | (simp [entryFrame, mkF, argsToLocals, Value.category]; done) | rfl) ?_
  intro p e s m below meth c C
  refine Wl.st (g' := (mkF m 1 #[.val (.ref s_ROLLED_BACK), .val (.ref s_PENDING)] [(.ref s_PENDING)])) (fun X t q => XS.aloadN X.here C.hx rfl (hb C.hby d3_0) rfl rfl q) ?_
  refine Wl.ldcA C (hw _ (List.mem_of_getElem? (i := 22) rfl)) (a := z) d3_1 ?_
  show Wl p l e _ s m _ below meth c n0 _ (some ("com/example/escrow/escrow/TransactionState", 57, z)) h0 0 0 (mkF m 3 #[.val (.ref s_ROLLED_BACK), .val (.ref s_PENDING)] [(.ref z), (.ref s_PENDING)])
  refine Wl.callS C (z := (⟨"java/util/Objects", "requireNonNull", "(Ljava/lang/Object;Ljava/lang/String;)Ljava/lang/Object;"⟩ : MethodName)) (hw _ (List.mem_of_getElem? (i := 30) rfl)) (hw _ (List.mem_of_getElem? (i := 31) rfl)) (hw _ (List.mem_of_getElem? (i := 32) rfl)) (hw _ (List.mem_of_getElem? (i := 33) rfl)) (by decide) ((own_m4_5 l Z a0 hw n0 h0 s_CREATED s_PENDING s_COMMITTED s_FINISHED s_TERMINATING s_ROLLED_BACK EN z).toL (some ("com/example/escrow/escrow/TransactionState", 57, z))) (w := 0) (by decide) (by decide) pd_3 rfl (rest := []) rfl rfl (Nat.le_of_eq rfl) (by decide) (by decide) d3_3 ?_
  rintro _ _ _ ⟨⟨rfl, rfl⟩, rfl⟩
  show Wl p l e _ s m _ below meth c n0 _ (some ("com/example/escrow/escrow/TransactionState", 57, z)) h0 0 0 (mkF m 6 #[.val (.ref s_ROLLED_BACK), .val (.ref s_PENDING)] [(.ref s_PENDING)])
  refine Wl.st (g' := (mkF m 7 #[.val (.ref s_ROLLED_BACK), .val (.ref s_PENDING)] [])) (fun X t q => XS.pop X.here C.hx rfl (hb C.hby d3_6) rfl rfl q) ?_
  refine Wl.st (g' := (mkF m 8 #[.val (.ref s_ROLLED_BACK), .val (.ref s_PENDING)] [(.ref s_ROLLED_BACK)])) (fun X t q => XS.aloadN X.here C.hx rfl (hb C.hby d3_7) rfl rfl q) ?_
  refine Wl.callU C (x := (⟨"com/example/escrow/escrow/TransactionState", "ordinal", "()I"⟩ : MethodName)) (z := (⟨"java/lang/Enum", "ordinal", "()I"⟩ : MethodName)) (K := "com/example/escrow/escrow/TransactionState") (owner := "java/lang/Enum") (hw _ (List.mem_of_getElem? (i := 34) rfl)) (hw _ (List.mem_of_getElem? (i := 35) rfl)) (hw _ (List.mem_of_getElem? (i := 36) rfl)) (hw _ (List.mem_of_getElem? (i := 38) rfl)) (hw _ (List.mem_of_getElem? (i := 37) rfl)) (hw _ (List.mem_of_getElem? (i := 39) rfl)) (hw _ (List.mem_of_getElem? (i := 40) rfl)) (by decide) (en_E_ROLLED_BACK EN) ((own_m5_44 l Z a0 hw n0 h0 s_CREATED s_PENDING s_COMMITTED s_FINISHED s_TERMINATING s_ROLLED_BACK EN ).toL (some ("com/example/escrow/escrow/TransactionState", 57, z))) (w := 0) (by decide) (by decide) pd_4 rfl (rest := []) rfl rfl (Nat.le_of_eq rfl) (by decide) (by decide) d3_8 ?_
  rintro _ _ _ ⟨⟨rfl, rfl⟩, rfl⟩
  show Wl p l e _ s m _ below meth c n0 _ (some ("com/example/escrow/escrow/TransactionState", 57, z)) h0 0 0 (mkF m 11 #[.val (.ref s_ROLLED_BACK), .val (.ref s_PENDING)] [(.int (5 : Int32))])
  refine Wl.st (g' := (mkF m 132 #[.val (.ref s_ROLLED_BACK), .val (.ref s_PENDING)] [])) (fun X t q => XS.tswIn X.here C.hx rfl (pc0 := 11) (pc' := 132) rfl (hb C.hby d3_11) rfl (by decide) (o := 121) rfl (by decide) (by decide) q) ?_
  refine Wl.st (g' := (mkF m 133 #[.val (.ref s_ROLLED_BACK), .val (.ref s_PENDING)] [(.int (0 : Int32))])) (fun X t q => XS.iconst X.here C.hx rfl (hb C.hby d3_132) q) ?_
  exact Wl.retV C (t := .boolean) rfl rfl (Or.inl ⟨rfl, by simp, _, rfl⟩) d3_133 (by decide) (by decide) ⟨rfl, rfl, rfl⟩
set_option maxRecDepth 65536 in
set_option maxHeartbeats 40000000 in
theorem own_c47 (l : Launch) (Z : State) (a0 : Array Value) (hw : ∀ d ∈ tables_1, d.before a0 Z = true) (n0 : Nat) (h0 : Heap) (s_CREATED s_PENDING s_COMMITTED s_FINISHED s_TERMINATING s_ROLLED_BACK : Addr) (EN : Enm Z h0 s_CREATED s_PENDING s_COMMITTED s_FINISHED s_TERMINATING s_ROLLED_BACK) (z : Addr) :
    MetL l Z n0 (⟨"com/example/escrow/escrow/TransactionState", "canMoveTo", "(Lcom/example/escrow/escrow/TransactionState;)Z"⟩ : MethodName) prog_34_method_7_code 2 (some .boolean) ({ frames := 1, cells := 0, slots := 0, locals := 13 } : Room) #[(.ref s_ROLLED_BACK), (.ref s_COMMITTED)] (some ("com/example/escrow/escrow/TransactionState", 57, z)) h0 (fun v h lt => v = some (.int (0 : Int32)) ∧ h0 = h ∧ lt = some ("com/example/escrow/escrow/TransactionState", 57, z)) := by
  refine MetL.of pn_1 #[.val (.ref s_ROLLED_BACK), .val (.ref s_COMMITTED)] (fun m => by first | (simp [entryFrame, mkF, argsToLocals, Value.category]; done) | rfl) ?_
  intro p e s m below meth c C
  refine Wl.st (g' := (mkF m 1 #[.val (.ref s_ROLLED_BACK), .val (.ref s_COMMITTED)] [(.ref s_COMMITTED)])) (fun X t q => XS.aloadN X.here C.hx rfl (hb C.hby d3_0) rfl rfl q) ?_
  refine Wl.ldcA C (hw _ (List.mem_of_getElem? (i := 22) rfl)) (a := z) d3_1 ?_
  show Wl p l e _ s m _ below meth c n0 _ (some ("com/example/escrow/escrow/TransactionState", 57, z)) h0 0 0 (mkF m 3 #[.val (.ref s_ROLLED_BACK), .val (.ref s_COMMITTED)] [(.ref z), (.ref s_COMMITTED)])
  refine Wl.callS C (z := (⟨"java/util/Objects", "requireNonNull", "(Ljava/lang/Object;Ljava/lang/String;)Ljava/lang/Object;"⟩ : MethodName)) (hw _ (List.mem_of_getElem? (i := 30) rfl)) (hw _ (List.mem_of_getElem? (i := 31) rfl)) (hw _ (List.mem_of_getElem? (i := 32) rfl)) (hw _ (List.mem_of_getElem? (i := 33) rfl)) (by decide) ((own_m4_12 l Z a0 hw n0 h0 s_CREATED s_PENDING s_COMMITTED s_FINISHED s_TERMINATING s_ROLLED_BACK EN z).toL (some ("com/example/escrow/escrow/TransactionState", 57, z))) (w := 0) (by decide) (by decide) pd_3 rfl (rest := []) rfl rfl (Nat.le_of_eq rfl) (by decide) (by decide) d3_3 ?_
  rintro _ _ _ ⟨⟨rfl, rfl⟩, rfl⟩
  show Wl p l e _ s m _ below meth c n0 _ (some ("com/example/escrow/escrow/TransactionState", 57, z)) h0 0 0 (mkF m 6 #[.val (.ref s_ROLLED_BACK), .val (.ref s_COMMITTED)] [(.ref s_COMMITTED)])
  refine Wl.st (g' := (mkF m 7 #[.val (.ref s_ROLLED_BACK), .val (.ref s_COMMITTED)] [])) (fun X t q => XS.pop X.here C.hx rfl (hb C.hby d3_6) rfl rfl q) ?_
  refine Wl.st (g' := (mkF m 8 #[.val (.ref s_ROLLED_BACK), .val (.ref s_COMMITTED)] [(.ref s_ROLLED_BACK)])) (fun X t q => XS.aloadN X.here C.hx rfl (hb C.hby d3_7) rfl rfl q) ?_
  refine Wl.callU C (x := (⟨"com/example/escrow/escrow/TransactionState", "ordinal", "()I"⟩ : MethodName)) (z := (⟨"java/lang/Enum", "ordinal", "()I"⟩ : MethodName)) (K := "com/example/escrow/escrow/TransactionState") (owner := "java/lang/Enum") (hw _ (List.mem_of_getElem? (i := 34) rfl)) (hw _ (List.mem_of_getElem? (i := 35) rfl)) (hw _ (List.mem_of_getElem? (i := 36) rfl)) (hw _ (List.mem_of_getElem? (i := 38) rfl)) (hw _ (List.mem_of_getElem? (i := 37) rfl)) (hw _ (List.mem_of_getElem? (i := 39) rfl)) (hw _ (List.mem_of_getElem? (i := 40) rfl)) (by decide) (en_E_ROLLED_BACK EN) ((own_m5_44 l Z a0 hw n0 h0 s_CREATED s_PENDING s_COMMITTED s_FINISHED s_TERMINATING s_ROLLED_BACK EN ).toL (some ("com/example/escrow/escrow/TransactionState", 57, z))) (w := 0) (by decide) (by decide) pd_4 rfl (rest := []) rfl rfl (Nat.le_of_eq rfl) (by decide) (by decide) d3_8 ?_
  rintro _ _ _ ⟨⟨rfl, rfl⟩, rfl⟩
  show Wl p l e _ s m _ below meth c n0 _ (some ("com/example/escrow/escrow/TransactionState", 57, z)) h0 0 0 (mkF m 11 #[.val (.ref s_ROLLED_BACK), .val (.ref s_COMMITTED)] [(.int (5 : Int32))])
  refine Wl.st (g' := (mkF m 132 #[.val (.ref s_ROLLED_BACK), .val (.ref s_COMMITTED)] [])) (fun X t q => XS.tswIn X.here C.hx rfl (pc0 := 11) (pc' := 132) rfl (hb C.hby d3_11) rfl (by decide) (o := 121) rfl (by decide) (by decide) q) ?_
  refine Wl.st (g' := (mkF m 133 #[.val (.ref s_ROLLED_BACK), .val (.ref s_COMMITTED)] [(.int (0 : Int32))])) (fun X t q => XS.iconst X.here C.hx rfl (hb C.hby d3_132) q) ?_
  exact Wl.retV C (t := .boolean) rfl rfl (Or.inl ⟨rfl, by simp, _, rfl⟩) d3_133 (by decide) (by decide) ⟨rfl, rfl, rfl⟩
set_option maxRecDepth 65536 in
set_option maxHeartbeats 40000000 in
theorem own_c48 (l : Launch) (Z : State) (a0 : Array Value) (hw : ∀ d ∈ tables_1, d.before a0 Z = true) (n0 : Nat) (h0 : Heap) (s_CREATED s_PENDING s_COMMITTED s_FINISHED s_TERMINATING s_ROLLED_BACK : Addr) (EN : Enm Z h0 s_CREATED s_PENDING s_COMMITTED s_FINISHED s_TERMINATING s_ROLLED_BACK) (z : Addr) :
    MetL l Z n0 (⟨"com/example/escrow/escrow/TransactionState", "canMoveTo", "(Lcom/example/escrow/escrow/TransactionState;)Z"⟩ : MethodName) prog_34_method_7_code 2 (some .boolean) ({ frames := 1, cells := 0, slots := 0, locals := 13 } : Room) #[(.ref s_ROLLED_BACK), (.ref s_FINISHED)] (some ("com/example/escrow/escrow/TransactionState", 57, z)) h0 (fun v h lt => v = some (.int (0 : Int32)) ∧ h0 = h ∧ lt = some ("com/example/escrow/escrow/TransactionState", 57, z)) := by
  refine MetL.of pn_1 #[.val (.ref s_ROLLED_BACK), .val (.ref s_FINISHED)] (fun m => by first | (simp [entryFrame, mkF, argsToLocals, Value.category]; done) | rfl) ?_
  intro p e s m below meth c C
  refine Wl.st (g' := (mkF m 1 #[.val (.ref s_ROLLED_BACK), .val (.ref s_FINISHED)] [(.ref s_FINISHED)])) (fun X t q => XS.aloadN X.here C.hx rfl (hb C.hby d3_0) rfl rfl q) ?_
  refine Wl.ldcA C (hw _ (List.mem_of_getElem? (i := 22) rfl)) (a := z) d3_1 ?_
  show Wl p l e _ s m _ below meth c n0 _ (some ("com/example/escrow/escrow/TransactionState", 57, z)) h0 0 0 (mkF m 3 #[.val (.ref s_ROLLED_BACK), .val (.ref s_FINISHED)] [(.ref z), (.ref s_FINISHED)])
  refine Wl.callS C (z := (⟨"java/util/Objects", "requireNonNull", "(Ljava/lang/Object;Ljava/lang/String;)Ljava/lang/Object;"⟩ : MethodName)) (hw _ (List.mem_of_getElem? (i := 30) rfl)) (hw _ (List.mem_of_getElem? (i := 31) rfl)) (hw _ (List.mem_of_getElem? (i := 32) rfl)) (hw _ (List.mem_of_getElem? (i := 33) rfl)) (by decide) ((own_m4_20 l Z a0 hw n0 h0 s_CREATED s_PENDING s_COMMITTED s_FINISHED s_TERMINATING s_ROLLED_BACK EN z).toL (some ("com/example/escrow/escrow/TransactionState", 57, z))) (w := 0) (by decide) (by decide) pd_3 rfl (rest := []) rfl rfl (Nat.le_of_eq rfl) (by decide) (by decide) d3_3 ?_
  rintro _ _ _ ⟨⟨rfl, rfl⟩, rfl⟩
  show Wl p l e _ s m _ below meth c n0 _ (some ("com/example/escrow/escrow/TransactionState", 57, z)) h0 0 0 (mkF m 6 #[.val (.ref s_ROLLED_BACK), .val (.ref s_FINISHED)] [(.ref s_FINISHED)])
  refine Wl.st (g' := (mkF m 7 #[.val (.ref s_ROLLED_BACK), .val (.ref s_FINISHED)] [])) (fun X t q => XS.pop X.here C.hx rfl (hb C.hby d3_6) rfl rfl q) ?_
  refine Wl.st (g' := (mkF m 8 #[.val (.ref s_ROLLED_BACK), .val (.ref s_FINISHED)] [(.ref s_ROLLED_BACK)])) (fun X t q => XS.aloadN X.here C.hx rfl (hb C.hby d3_7) rfl rfl q) ?_
  refine Wl.callU C (x := (⟨"com/example/escrow/escrow/TransactionState", "ordinal", "()I"⟩ : MethodName)) (z := (⟨"java/lang/Enum", "ordinal", "()I"⟩ : MethodName)) (K := "com/example/escrow/escrow/TransactionState") (owner := "java/lang/Enum") (hw _ (List.mem_of_getElem? (i := 34) rfl)) (hw _ (List.mem_of_getElem? (i := 35) rfl)) (hw _ (List.mem_of_getElem? (i := 36) rfl)) (hw _ (List.mem_of_getElem? (i := 38) rfl)) (hw _ (List.mem_of_getElem? (i := 37) rfl)) (hw _ (List.mem_of_getElem? (i := 39) rfl)) (hw _ (List.mem_of_getElem? (i := 40) rfl)) (by decide) (en_E_ROLLED_BACK EN) ((own_m5_44 l Z a0 hw n0 h0 s_CREATED s_PENDING s_COMMITTED s_FINISHED s_TERMINATING s_ROLLED_BACK EN ).toL (some ("com/example/escrow/escrow/TransactionState", 57, z))) (w := 0) (by decide) (by decide) pd_4 rfl (rest := []) rfl rfl (Nat.le_of_eq rfl) (by decide) (by decide) d3_8 ?_
  rintro _ _ _ ⟨⟨rfl, rfl⟩, rfl⟩
  show Wl p l e _ s m _ below meth c n0 _ (some ("com/example/escrow/escrow/TransactionState", 57, z)) h0 0 0 (mkF m 11 #[.val (.ref s_ROLLED_BACK), .val (.ref s_FINISHED)] [(.int (5 : Int32))])
  refine Wl.st (g' := (mkF m 132 #[.val (.ref s_ROLLED_BACK), .val (.ref s_FINISHED)] [])) (fun X t q => XS.tswIn X.here C.hx rfl (pc0 := 11) (pc' := 132) rfl (hb C.hby d3_11) rfl (by decide) (o := 121) rfl (by decide) (by decide) q) ?_
  refine Wl.st (g' := (mkF m 133 #[.val (.ref s_ROLLED_BACK), .val (.ref s_FINISHED)] [(.int (0 : Int32))])) (fun X t q => XS.iconst X.here C.hx rfl (hb C.hby d3_132) q) ?_
  exact Wl.retV C (t := .boolean) rfl rfl (Or.inl ⟨rfl, by simp, _, rfl⟩) d3_133 (by decide) (by decide) ⟨rfl, rfl, rfl⟩
set_option maxRecDepth 65536 in
set_option maxHeartbeats 40000000 in
theorem own_c49 (l : Launch) (Z : State) (a0 : Array Value) (hw : ∀ d ∈ tables_1, d.before a0 Z = true) (n0 : Nat) (h0 : Heap) (s_CREATED s_PENDING s_COMMITTED s_FINISHED s_TERMINATING s_ROLLED_BACK : Addr) (EN : Enm Z h0 s_CREATED s_PENDING s_COMMITTED s_FINISHED s_TERMINATING s_ROLLED_BACK) (z : Addr) :
    MetL l Z n0 (⟨"com/example/escrow/escrow/TransactionState", "canMoveTo", "(Lcom/example/escrow/escrow/TransactionState;)Z"⟩ : MethodName) prog_34_method_7_code 2 (some .boolean) ({ frames := 1, cells := 0, slots := 0, locals := 13 } : Room) #[(.ref s_ROLLED_BACK), (.ref s_TERMINATING)] (some ("com/example/escrow/escrow/TransactionState", 57, z)) h0 (fun v h lt => v = some (.int (0 : Int32)) ∧ h0 = h ∧ lt = some ("com/example/escrow/escrow/TransactionState", 57, z)) := by
  refine MetL.of pn_1 #[.val (.ref s_ROLLED_BACK), .val (.ref s_TERMINATING)] (fun m => by first | (simp [entryFrame, mkF, argsToLocals, Value.category]; done) | rfl) ?_
  intro p e s m below meth c C
  refine Wl.st (g' := (mkF m 1 #[.val (.ref s_ROLLED_BACK), .val (.ref s_TERMINATING)] [(.ref s_TERMINATING)])) (fun X t q => XS.aloadN X.here C.hx rfl (hb C.hby d3_0) rfl rfl q) ?_
  refine Wl.ldcA C (hw _ (List.mem_of_getElem? (i := 22) rfl)) (a := z) d3_1 ?_
  show Wl p l e _ s m _ below meth c n0 _ (some ("com/example/escrow/escrow/TransactionState", 57, z)) h0 0 0 (mkF m 3 #[.val (.ref s_ROLLED_BACK), .val (.ref s_TERMINATING)] [(.ref z), (.ref s_TERMINATING)])
  refine Wl.callS C (z := (⟨"java/util/Objects", "requireNonNull", "(Ljava/lang/Object;Ljava/lang/String;)Ljava/lang/Object;"⟩ : MethodName)) (hw _ (List.mem_of_getElem? (i := 30) rfl)) (hw _ (List.mem_of_getElem? (i := 31) rfl)) (hw _ (List.mem_of_getElem? (i := 32) rfl)) (hw _ (List.mem_of_getElem? (i := 33) rfl)) (by decide) ((own_m4_29 l Z a0 hw n0 h0 s_CREATED s_PENDING s_COMMITTED s_FINISHED s_TERMINATING s_ROLLED_BACK EN z).toL (some ("com/example/escrow/escrow/TransactionState", 57, z))) (w := 0) (by decide) (by decide) pd_3 rfl (rest := []) rfl rfl (Nat.le_of_eq rfl) (by decide) (by decide) d3_3 ?_
  rintro _ _ _ ⟨⟨rfl, rfl⟩, rfl⟩
  show Wl p l e _ s m _ below meth c n0 _ (some ("com/example/escrow/escrow/TransactionState", 57, z)) h0 0 0 (mkF m 6 #[.val (.ref s_ROLLED_BACK), .val (.ref s_TERMINATING)] [(.ref s_TERMINATING)])
  refine Wl.st (g' := (mkF m 7 #[.val (.ref s_ROLLED_BACK), .val (.ref s_TERMINATING)] [])) (fun X t q => XS.pop X.here C.hx rfl (hb C.hby d3_6) rfl rfl q) ?_
  refine Wl.st (g' := (mkF m 8 #[.val (.ref s_ROLLED_BACK), .val (.ref s_TERMINATING)] [(.ref s_ROLLED_BACK)])) (fun X t q => XS.aloadN X.here C.hx rfl (hb C.hby d3_7) rfl rfl q) ?_
  refine Wl.callU C (x := (⟨"com/example/escrow/escrow/TransactionState", "ordinal", "()I"⟩ : MethodName)) (z := (⟨"java/lang/Enum", "ordinal", "()I"⟩ : MethodName)) (K := "com/example/escrow/escrow/TransactionState") (owner := "java/lang/Enum") (hw _ (List.mem_of_getElem? (i := 34) rfl)) (hw _ (List.mem_of_getElem? (i := 35) rfl)) (hw _ (List.mem_of_getElem? (i := 36) rfl)) (hw _ (List.mem_of_getElem? (i := 38) rfl)) (hw _ (List.mem_of_getElem? (i := 37) rfl)) (hw _ (List.mem_of_getElem? (i := 39) rfl)) (hw _ (List.mem_of_getElem? (i := 40) rfl)) (by decide) (en_E_ROLLED_BACK EN) ((own_m5_44 l Z a0 hw n0 h0 s_CREATED s_PENDING s_COMMITTED s_FINISHED s_TERMINATING s_ROLLED_BACK EN ).toL (some ("com/example/escrow/escrow/TransactionState", 57, z))) (w := 0) (by decide) (by decide) pd_4 rfl (rest := []) rfl rfl (Nat.le_of_eq rfl) (by decide) (by decide) d3_8 ?_
  rintro _ _ _ ⟨⟨rfl, rfl⟩, rfl⟩
  show Wl p l e _ s m _ below meth c n0 _ (some ("com/example/escrow/escrow/TransactionState", 57, z)) h0 0 0 (mkF m 11 #[.val (.ref s_ROLLED_BACK), .val (.ref s_TERMINATING)] [(.int (5 : Int32))])
  refine Wl.st (g' := (mkF m 132 #[.val (.ref s_ROLLED_BACK), .val (.ref s_TERMINATING)] [])) (fun X t q => XS.tswIn X.here C.hx rfl (pc0 := 11) (pc' := 132) rfl (hb C.hby d3_11) rfl (by decide) (o := 121) rfl (by decide) (by decide) q) ?_
  refine Wl.st (g' := (mkF m 133 #[.val (.ref s_ROLLED_BACK), .val (.ref s_TERMINATING)] [(.int (0 : Int32))])) (fun X t q => XS.iconst X.here C.hx rfl (hb C.hby d3_132) q) ?_
  exact Wl.retV C (t := .boolean) rfl rfl (Or.inl ⟨rfl, by simp, _, rfl⟩) d3_133 (by decide) (by decide) ⟨rfl, rfl, rfl⟩
set_option maxRecDepth 65536 in
set_option maxHeartbeats 40000000 in
theorem own_c50 (l : Launch) (Z : State) (a0 : Array Value) (hw : ∀ d ∈ tables_1, d.before a0 Z = true) (n0 : Nat) (h0 : Heap) (s_CREATED s_PENDING s_COMMITTED s_FINISHED s_TERMINATING s_ROLLED_BACK : Addr) (EN : Enm Z h0 s_CREATED s_PENDING s_COMMITTED s_FINISHED s_TERMINATING s_ROLLED_BACK) (z : Addr) :
    MetL l Z n0 (⟨"com/example/escrow/escrow/TransactionState", "canMoveTo", "(Lcom/example/escrow/escrow/TransactionState;)Z"⟩ : MethodName) prog_34_method_7_code 2 (some .boolean) ({ frames := 1, cells := 0, slots := 0, locals := 13 } : Room) #[(.ref s_ROLLED_BACK), (.ref s_ROLLED_BACK)] (some ("com/example/escrow/escrow/TransactionState", 57, z)) h0 (fun v h lt => v = some (.int (0 : Int32)) ∧ h0 = h ∧ lt = some ("com/example/escrow/escrow/TransactionState", 57, z)) := by
  refine MetL.of pn_1 #[.val (.ref s_ROLLED_BACK), .val (.ref s_ROLLED_BACK)] (fun m => by first | (simp [entryFrame, mkF, argsToLocals, Value.category]; done) | rfl) ?_
  intro p e s m below meth c C
  refine Wl.st (g' := (mkF m 1 #[.val (.ref s_ROLLED_BACK), .val (.ref s_ROLLED_BACK)] [(.ref s_ROLLED_BACK)])) (fun X t q => XS.aloadN X.here C.hx rfl (hb C.hby d3_0) rfl rfl q) ?_
  refine Wl.ldcA C (hw _ (List.mem_of_getElem? (i := 22) rfl)) (a := z) d3_1 ?_
  show Wl p l e _ s m _ below meth c n0 _ (some ("com/example/escrow/escrow/TransactionState", 57, z)) h0 0 0 (mkF m 3 #[.val (.ref s_ROLLED_BACK), .val (.ref s_ROLLED_BACK)] [(.ref z), (.ref s_ROLLED_BACK)])
  refine Wl.callS C (z := (⟨"java/util/Objects", "requireNonNull", "(Ljava/lang/Object;Ljava/lang/String;)Ljava/lang/Object;"⟩ : MethodName)) (hw _ (List.mem_of_getElem? (i := 30) rfl)) (hw _ (List.mem_of_getElem? (i := 31) rfl)) (hw _ (List.mem_of_getElem? (i := 32) rfl)) (hw _ (List.mem_of_getElem? (i := 33) rfl)) (by decide) ((own_m4_31 l Z a0 hw n0 h0 s_CREATED s_PENDING s_COMMITTED s_FINISHED s_TERMINATING s_ROLLED_BACK EN z).toL (some ("com/example/escrow/escrow/TransactionState", 57, z))) (w := 0) (by decide) (by decide) pd_3 rfl (rest := []) rfl rfl (Nat.le_of_eq rfl) (by decide) (by decide) d3_3 ?_
  rintro _ _ _ ⟨⟨rfl, rfl⟩, rfl⟩
  show Wl p l e _ s m _ below meth c n0 _ (some ("com/example/escrow/escrow/TransactionState", 57, z)) h0 0 0 (mkF m 6 #[.val (.ref s_ROLLED_BACK), .val (.ref s_ROLLED_BACK)] [(.ref s_ROLLED_BACK)])
  refine Wl.st (g' := (mkF m 7 #[.val (.ref s_ROLLED_BACK), .val (.ref s_ROLLED_BACK)] [])) (fun X t q => XS.pop X.here C.hx rfl (hb C.hby d3_6) rfl rfl q) ?_
  refine Wl.st (g' := (mkF m 8 #[.val (.ref s_ROLLED_BACK), .val (.ref s_ROLLED_BACK)] [(.ref s_ROLLED_BACK)])) (fun X t q => XS.aloadN X.here C.hx rfl (hb C.hby d3_7) rfl rfl q) ?_
  refine Wl.callU C (x := (⟨"com/example/escrow/escrow/TransactionState", "ordinal", "()I"⟩ : MethodName)) (z := (⟨"java/lang/Enum", "ordinal", "()I"⟩ : MethodName)) (K := "com/example/escrow/escrow/TransactionState") (owner := "java/lang/Enum") (hw _ (List.mem_of_getElem? (i := 34) rfl)) (hw _ (List.mem_of_getElem? (i := 35) rfl)) (hw _ (List.mem_of_getElem? (i := 36) rfl)) (hw _ (List.mem_of_getElem? (i := 38) rfl)) (hw _ (List.mem_of_getElem? (i := 37) rfl)) (hw _ (List.mem_of_getElem? (i := 39) rfl)) (hw _ (List.mem_of_getElem? (i := 40) rfl)) (by decide) (en_E_ROLLED_BACK EN) ((own_m5_44 l Z a0 hw n0 h0 s_CREATED s_PENDING s_COMMITTED s_FINISHED s_TERMINATING s_ROLLED_BACK EN ).toL (some ("com/example/escrow/escrow/TransactionState", 57, z))) (w := 0) (by decide) (by decide) pd_4 rfl (rest := []) rfl rfl (Nat.le_of_eq rfl) (by decide) (by decide) d3_8 ?_
  rintro _ _ _ ⟨⟨rfl, rfl⟩, rfl⟩
  show Wl p l e _ s m _ below meth c n0 _ (some ("com/example/escrow/escrow/TransactionState", 57, z)) h0 0 0 (mkF m 11 #[.val (.ref s_ROLLED_BACK), .val (.ref s_ROLLED_BACK)] [(.int (5 : Int32))])
  refine Wl.st (g' := (mkF m 132 #[.val (.ref s_ROLLED_BACK), .val (.ref s_ROLLED_BACK)] [])) (fun X t q => XS.tswIn X.here C.hx rfl (pc0 := 11) (pc' := 132) rfl (hb C.hby d3_11) rfl (by decide) (o := 121) rfl (by decide) (by decide) q) ?_
  refine Wl.st (g' := (mkF m 133 #[.val (.ref s_ROLLED_BACK), .val (.ref s_ROLLED_BACK)] [(.int (0 : Int32))])) (fun X t q => XS.iconst X.here C.hx rfl (hb C.hby d3_132) q) ?_
  exact Wl.retV C (t := .boolean) rfl rfl (Or.inl ⟨rfl, by simp, _, rfl⟩) d3_133 (by decide) (by decide) ⟨rfl, rfl, rfl⟩
set_option maxRecDepth 65536 in
set_option maxHeartbeats 40000000 in
theorem law_met (l : Launch) (Z : State) (a0 : Array Value) (hw : ∀ d ∈ tables_1, d.before a0 Z = true) (n0 : Nat) (h0 : Heap) (i0 : Int32) (s_CREATED s_PENDING s_COMMITTED s_FINISHED s_TERMINATING s_ROLLED_BACK : Addr) (EN : Enm Z h0 s_CREATED s_PENDING s_COMMITTED s_FINISHED s_TERMINATING s_ROLLED_BACK) :
    MetL l Z n0 x code maxLocals ret room_1 #[(.int i0)] none h0 (fun v _ _ => v = some (.int 1)) := by
  refine MetL.of pn_0 #[.val (.int i0), .unset, .unset, .unset, .unset, .unset] (fun m => by first | (simp [entryFrame, mkF, argsToLocals, Value.category, maxLocals]; done) | rfl) ?_
  intro p e s m below meth c C
  refine Wl.st (g' := (mkF m 1 #[.val (.int i0), .unset, .unset, .unset, .unset, .unset] [(.int i0)])) (fun X t q => XS.iloadN X.here C.hx rfl (hb C.hby at_0) rfl q) ?_
  refine Wl.ldcI C (hw _ (List.mem_of_getElem? (i := 0) rfl)) at_1 ?_
  show Wl p l e _ s m _ below meth c n0 _ none h0 0 0 (mkF m 3 #[.val (.int i0), .unset, .unset, .unset, .unset, .unset] [(.int (2147483647 : Int32)), (.int i0)])
  refine Wl.st (g' := (mkF m 4 #[.val (.int i0), .unset, .unset, .unset, .unset, .unset] [(.int (i0 &&& (2147483647 : Int32)))])) (fun X t q => XS.iand X.here C.hx rfl (hb C.hby at_3) rfl q) ?_
  refine Wl.st (g' := (mkF m 6 #[.val (.int i0), .unset, .unset, .unset, .unset, .unset] [(.int (6 : Int32)), (.int (i0 &&& (2147483647 : Int32)))])) (fun X t q => XS.bipush X.here C.hx rfl (hb C.hby at_4) q) ?_
  refine Wl.st (g' := (mkF m 7 #[.val (.int i0), .unset, .unset, .unset, .unset, .unset] [(.int ((i0 &&& (2147483647 : Int32)) % (6 : Int32)))])) (fun X t q => iremM X C.hx rfl (hb C.hby at_6) rfl (by decide) q) ?_
  refine Wl.st (g' := (mkF m 8 #[.val (.int i0), .val (.int ((i0 &&& (2147483647 : Int32)) % (6 : Int32))), .unset, .unset, .unset, .unset] [])) (fun X t q => XS.istoreN X.here C.hx rfl (hb C.hby at_7) rfl (l' := #[.val (.int i0), .val (.int ((i0 &&& (2147483647 : Int32)) % (6 : Int32))), .unset, .unset, .unset, .unset]) rfl q) ?_
  rcases mod6 i0 with hi_i0 | hi_i0 | hi_i0 | hi_i0 | hi_i0 | hi_i0 <;> rw [hi_i0]
  · skip
    show Wl p l e _ s m _ below meth c n0 _ none h0 0 0 (mkF m 8 #[.val (.int i0), .val (.int (0 : Int32)), .unset, .unset, .unset, .unset] [])
    refine Wl.st (g' := (mkF m 9 #[.val (.int i0), .val (.int (0 : Int32)), .unset, .unset, .unset, .unset] [(.int (0 : Int32))])) (fun X t q => XS.iloadN X.here C.hx rfl (hb C.hby at_8) rfl q) ?_
    refine Wl.callS C (z := (⟨"com/example/escrow/escrow/TransactionStateIsEndedPinLaw", "pick", "(I)Lcom/example/escrow/escrow/TransactionState;"⟩ : MethodName)) (hw _ (List.mem_of_getElem? (i := 1) rfl)) (hw _ (List.mem_of_getElem? (i := 2) rfl)) (hw _ (List.mem_of_getElem? (i := 3) rfl)) (hw _ (List.mem_of_getElem? (i := 4) rfl)) (by decide) ((own_m1_0 l Z a0 hw n0 h0 s_CREATED s_PENDING s_COMMITTED s_FINISHED s_TERMINATING s_ROLLED_BACK EN ).toL none) (w := 0) (by decide) (by decide) pd_0 rfl (rest := []) rfl rfl (Nat.le_of_eq rfl) (by decide) (by decide) at_9 ?_
    rintro _ _ _ ⟨⟨rfl, rfl⟩, rfl⟩
    show Wl p l e _ s m _ below meth c n0 _ none h0 0 0 (mkF m 12 #[.val (.int i0), .val (.int (0 : Int32)), .unset, .unset, .unset, .unset] [(.ref s_CREATED)])
    refine Wl.st (g' := (mkF m 13 #[.val (.int i0), .val (.int (0 : Int32)), .val (.ref s_CREATED), .unset, .unset, .unset] [])) (fun X t q => XS.astoreN X.here C.hx rfl (hb C.hby at_12) rfl rfl (l' := #[.val (.int i0), .val (.int (0 : Int32)), .val (.ref s_CREATED), .unset, .unset, .unset]) rfl q) ?_
    refine Wl.st (g' := (mkF m 14 #[.val (.int i0), .val (.int (0 : Int32)), .val (.ref s_CREATED), .unset, .unset, .unset] [(.ref s_CREATED)])) (fun X t q => XS.aloadN X.here C.hx rfl (hb C.hby at_13) rfl rfl q) ?_
    refine Wl.callV C (x := (⟨"com/example/escrow/escrow/TransactionState", "isEnded", "()Z"⟩ : MethodName)) (z := (⟨"com/example/escrow/escrow/TransactionState", "isEnded", "()Z"⟩ : MethodName)) (K := "com/example/escrow/escrow/TransactionState") (hw _ (List.mem_of_getElem? (i := 8) rfl)) (hw _ (List.mem_of_getElem? (i := 9) rfl)) (hw _ (List.mem_of_getElem? (i := 11) rfl)) (hw _ (List.mem_of_getElem? (i := 10) rfl)) (hw _ (List.mem_of_getElem? (i := 6) rfl)) (hw _ (List.mem_of_getElem? (i := 12) rfl)) (by decide) (fun s' hZ' => notFace_of_selects (args := #[]) (mvT hZ' (hw _ (List.mem_of_getElem? (i := 11) rfl)))) (en_E_CREATED EN) ((own_m2_1 l Z a0 hw n0 h0 s_CREATED s_PENDING s_COMMITTED s_FINISHED s_TERMINATING s_ROLLED_BACK EN ).toL none) (w := 0) (by decide) (by decide) pd_1 rfl (rest := []) rfl rfl (Nat.le_of_eq rfl) (by decide) (by decide) at_14 ?_
    rintro _ _ _ ⟨⟨rfl, rfl⟩, rfl⟩
    show Wl p l e _ s m _ below meth c n0 _ none h0 0 0 (mkF m 17 #[.val (.int i0), .val (.int (0 : Int32)), .val (.ref s_CREATED), .unset, .unset, .unset] [(.int (0 : Int32))])
    refine Wl.st (g' := (mkF m 18 #[.val (.int i0), .val (.int (0 : Int32)), .val (.ref s_CREATED), .val (.int (0 : Int32)), .unset, .unset] [])) (fun X t q => XS.istoreN X.here C.hx rfl (hb C.hby at_17) rfl (l' := #[.val (.int i0), .val (.int (0 : Int32)), .val (.ref s_CREATED), .val (.int (0 : Int32)), .unset, .unset]) rfl q) ?_
    refine Wl.st (g' := (mkF m 19 #[.val (.int i0), .val (.int (0 : Int32)), .val (.ref s_CREATED), .val (.int (0 : Int32)), .unset, .unset] [(.int (0 : Int32))])) (fun X t q => XS.iloadN X.here C.hx rfl (hb C.hby at_18) rfl q) ?_
    refine Wl.st (g' := (mkF m 20 #[.val (.int i0), .val (.int (0 : Int32)), .val (.ref s_CREATED), .val (.int (0 : Int32)), .unset, .unset] [(.int (3 : Int32)), (.int (0 : Int32))])) (fun X t q => XS.iconst X.here C.hx rfl (hb C.hby at_19) q) ?_
    refine Wl.st (g' := (mkF m 23 #[.val (.int i0), .val (.int (0 : Int32)), .val (.ref s_CREATED), .val (.int (0 : Int32)), .unset, .unset] [])) (fun X t q => XS.icmpNo X.here C.hx rfl (hb C.hby at_20) rfl (XT.ii_eq_f (by decide)) q) ?_
    refine Wl.st (g' := (mkF m 24 #[.val (.int i0), .val (.int (0 : Int32)), .val (.ref s_CREATED), .val (.int (0 : Int32)), .unset, .unset] [(.int (0 : Int32))])) (fun X t q => XS.iloadN X.here C.hx rfl (hb C.hby at_23) rfl q) ?_
    refine Wl.st (g' := (mkF m 25 #[.val (.int i0), .val (.int (0 : Int32)), .val (.ref s_CREATED), .val (.int (0 : Int32)), .unset, .unset] [(.int (5 : Int32)), (.int (0 : Int32))])) (fun X t q => XS.iconst X.here C.hx rfl (hb C.hby at_24) q) ?_
    refine Wl.st (g' := (mkF m 32 #[.val (.int i0), .val (.int (0 : Int32)), .val (.ref s_CREATED), .val (.int (0 : Int32)), .unset, .unset] [])) (fun X t q => XS.icmpYes X.here C.hx rfl (pc0 := 25) (pc' := 32) rfl (hb C.hby at_25) rfl (XT.ii_ne_t (by decide)) (by decide) (by decide) q) ?_
    refine Wl.st (g' := (mkF m 33 #[.val (.int i0), .val (.int (0 : Int32)), .val (.ref s_CREATED), .val (.int (0 : Int32)), .unset, .unset] [(.int (0 : Int32))])) (fun X t q => XS.iconst X.here C.hx rfl (hb C.hby at_32) q) ?_
    refine Wl.st (g' := (mkF m 35 #[.val (.int i0), .val (.int (0 : Int32)), .val (.ref s_CREATED), .val (.int (0 : Int32)), .val (.int (0 : Int32)), .unset] [])) (fun X t q => XS.istore X.here C.hx rfl (hb C.hby at_33) rfl (l' := #[.val (.int i0), .val (.int (0 : Int32)), .val (.ref s_CREATED), .val (.int (0 : Int32)), .val (.int (0 : Int32)), .unset]) rfl q) ?_
    refine Wl.st (g' := (mkF m 36 #[.val (.int i0), .val (.int (0 : Int32)), .val (.ref s_CREATED), .val (.int (0 : Int32)), .val (.int (0 : Int32)), .unset] [(.ref s_CREATED)])) (fun X t q => XS.aloadN X.here C.hx rfl (hb C.hby at_35) rfl rfl q) ?_
    refine Wl.getS C (hw _ (List.mem_of_getElem? (i := 5) rfl)) (en_S_CREATED EN) at_36 ?_
    show Wl p l e _ s m _ below meth c n0 _ none h0 0 0 (mkF m 39 #[.val (.int i0), .val (.int (0 : Int32)), .val (.ref s_CREATED), .val (.int (0 : Int32)), .val (.int (0 : Int32)), .unset] [(.ref s_CREATED), (.ref s_CREATED)])
    refine Wl.callV C (x := (⟨"com/example/escrow/escrow/TransactionState", "canMoveTo", "(Lcom/example/escrow/escrow/TransactionState;)Z"⟩ : MethodName)) (z := (⟨"com/example/escrow/escrow/TransactionState", "canMoveTo", "(Lcom/example/escrow/escrow/TransactionState;)Z"⟩ : MethodName)) (K := "com/example/escrow/escrow/TransactionState") (hw _ (List.mem_of_getElem? (i := 17) rfl)) (hw _ (List.mem_of_getElem? (i := 18) rfl)) (hw _ (List.mem_of_getElem? (i := 20) rfl)) (hw _ (List.mem_of_getElem? (i := 19) rfl)) (hw _ (List.mem_of_getElem? (i := 6) rfl)) (hw _ (List.mem_of_getElem? (i := 21) rfl)) (by decide) (fun s' hZ' => notFace_of_selects (args := #[]) (mvT hZ' (hw _ (List.mem_of_getElem? (i := 20) rfl)))) (en_E_CREATED EN) (own_c2 l Z a0 hw n0 h0 s_CREATED s_PENDING s_COMMITTED s_FINISHED s_TERMINATING s_ROLLED_BACK EN) (w := 0) (by decide) (by decide) pd_2 rfl (rest := []) rfl rfl (Nat.le_of_eq rfl) (by decide) (by decide) at_39 ?_
    rintro _ h1 _ ⟨rfl, E2, a3, rfl⟩
    show Wl p l e _ s m _ below meth c n0 _ (some ("com/example/escrow/escrow/TransactionState", 57, a3)) h1 2 20 (mkF m 42 #[.val (.int i0), .val (.int (0 : Int32)), .val (.ref s_CREATED), .val (.int (0 : Int32)), .val (.int (0 : Int32)), .unset] [(.int (0 : Int32))])
    refine Wl.st (g' := (mkF m 45 #[.val (.int i0), .val (.int (0 : Int32)), .val (.ref s_CREATED), .val (.int (0 : Int32)), .val (.int (0 : Int32)), .unset] [])) (fun X t q => XS.ifNo X.here C.hx rfl (hb C.hby at_42) rfl (XT.i0_ne_f (by decide)) q) ?_
    refine Wl.st (g' := (mkF m 46 #[.val (.int i0), .val (.int (0 : Int32)), .val (.ref s_CREATED), .val (.int (0 : Int32)), .val (.int (0 : Int32)), .unset] [(.ref s_CREATED)])) (fun X t q => XS.aloadN X.here C.hx rfl (hb C.hby at_45) rfl rfl q) ?_
    refine Wl.getS C (hw _ (List.mem_of_getElem? (i := 47) rfl)) (en_S_PENDING (EN.ext E2)) at_46 ?_
    show Wl p l e _ s m _ below meth c n0 _ (some ("com/example/escrow/escrow/TransactionState", 57, a3)) h1 2 20 (mkF m 49 #[.val (.int i0), .val (.int (0 : Int32)), .val (.ref s_CREATED), .val (.int (0 : Int32)), .val (.int (0 : Int32)), .unset] [(.ref s_PENDING), (.ref s_CREATED)])
    refine Wl.callV C (x := (⟨"com/example/escrow/escrow/TransactionState", "canMoveTo", "(Lcom/example/escrow/escrow/TransactionState;)Z"⟩ : MethodName)) (z := (⟨"com/example/escrow/escrow/TransactionState", "canMoveTo", "(Lcom/example/escrow/escrow/TransactionState;)Z"⟩ : MethodName)) (K := "com/example/escrow/escrow/TransactionState") (hw _ (List.mem_of_getElem? (i := 17) rfl)) (hw _ (List.mem_of_getElem? (i := 18) rfl)) (hw _ (List.mem_of_getElem? (i := 20) rfl)) (hw _ (List.mem_of_getElem? (i := 19) rfl)) (hw _ (List.mem_of_getElem? (i := 6) rfl)) (hw _ (List.mem_of_getElem? (i := 21) rfl)) (by decide) (fun s' hZ' => notFace_of_selects (args := #[]) (mvT hZ' (hw _ (List.mem_of_getElem? (i := 20) rfl)))) (en_E_CREATED (EN.ext E2)) (own_c5 l Z a0 hw n0 h1 s_CREATED s_PENDING s_COMMITTED s_FINISHED s_TERMINATING s_ROLLED_BACK (EN.ext E2) a3) (w := 0) (by decide) (by decide) pd_2 rfl (rest := []) rfl rfl (Nat.le_of_eq rfl) (by decide) (by decide) at_49 ?_
    rintro _ _ _ ⟨rfl, rfl, rfl⟩
    show Wl p l e _ s m _ below meth c n0 _ (some ("com/example/escrow/escrow/TransactionState", 57, a3)) h1 2 20 (mkF m 52 #[.val (.int i0), .val (.int (0 : Int32)), .val (.ref s_CREATED), .val (.int (0 : Int32)), .val (.int (0 : Int32)), .unset] [(.int (1 : Int32))])
    refine Wl.st (g' := (mkF m 95 #[.val (.int i0), .val (.int (0 : Int32)), .val (.ref s_CREATED), .val (.int (0 : Int32)), .val (.int (0 : Int32)), .unset] [])) (fun X t q => XS.ifYes X.here C.hx rfl (pc0 := 52) (pc' := 95) rfl (hb C.hby at_52) rfl (XT.i0_ne_t (by decide)) (by decide) (by decide) q) ?_
    refine Wl.st (g' := (mkF m 96 #[.val (.int i0), .val (.int (0 : Int32)), .val (.ref s_CREATED), .val (.int (0 : Int32)), .val (.int (0 : Int32)), .unset] [(.int (1 : Int32))])) (fun X t q => XS.iconst X.here C.hx rfl (hb C.hby at_95) q) ?_
    refine Wl.st (g' := (mkF m 100 #[.val (.int i0), .val (.int (0 : Int32)), .val (.ref s_CREATED), .val (.int (0 : Int32)), .val (.int (0 : Int32)), .unset] [(.int (1 : Int32))])) (fun X t q => XS.goto X.here C.hx rfl (pc0 := 96) (pc' := 100) rfl (hb C.hby at_96) (by decide) (by decide) q) ?_
    refine Wl.st (g' := (mkF m 102 #[.val (.int i0), .val (.int (0 : Int32)), .val (.ref s_CREATED), .val (.int (0 : Int32)), .val (.int (0 : Int32)), .val (.int (1 : Int32))] [])) (fun X t q => XS.istore X.here C.hx rfl (hb C.hby at_100) rfl (l' := #[.val (.int i0), .val (.int (0 : Int32)), .val (.ref s_CREATED), .val (.int (0 : Int32)), .val (.int (0 : Int32)), .val (.int (1 : Int32))]) rfl q) ?_
    refine Wl.st (g' := (mkF m 103 #[.val (.int i0), .val (.int (0 : Int32)), .val (.ref s_CREATED), .val (.int (0 : Int32)), .val (.int (0 : Int32)), .val (.int (1 : Int32))] [(.int (0 : Int32))])) (fun X t q => XS.iloadN X.here C.hx rfl (hb C.hby at_102) rfl q) ?_
    refine Wl.st (g' := (mkF m 105 #[.val (.int i0), .val (.int (0 : Int32)), .val (.ref s_CREATED), .val (.int (0 : Int32)), .val (.int (0 : Int32)), .val (.int (1 : Int32))] [(.int (0 : Int32)), (.int (0 : Int32))])) (fun X t q => XS.iload X.here C.hx rfl (hb C.hby at_103) rfl q) ?_
    refine Wl.st (g' := (mkF m 108 #[.val (.int i0), .val (.int (0 : Int32)), .val (.ref s_CREATED), .val (.int (0 : Int32)), .val (.int (0 : Int32)), .val (.int (1 : Int32))] [])) (fun X t q => XS.icmpNo X.here C.hx rfl (hb C.hby at_105) rfl (XT.ii_ne_f (by decide)) q) ?_
    refine Wl.st (g' := (mkF m 109 #[.val (.int i0), .val (.int (0 : Int32)), .val (.ref s_CREATED), .val (.int (0 : Int32)), .val (.int (0 : Int32)), .val (.int (1 : Int32))] [(.int (0 : Int32))])) (fun X t q => XS.iloadN X.here C.hx rfl (hb C.hby at_108) rfl q) ?_
    refine Wl.st (g' := (mkF m 111 #[.val (.int i0), .val (.int (0 : Int32)), .val (.ref s_CREATED), .val (.int (0 : Int32)), .val (.int (0 : Int32)), .val (.int (1 : Int32))] [(.int (1 : Int32)), (.int (0 : Int32))])) (fun X t q => XS.iload X.here C.hx rfl (hb C.hby at_109) rfl q) ?_
    refine Wl.st (g' := (mkF m 118 #[.val (.int i0), .val (.int (0 : Int32)), .val (.ref s_CREATED), .val (.int (0 : Int32)), .val (.int (0 : Int32)), .val (.int (1 : Int32))] [(.int (0 : Int32))])) (fun X t q => XS.ifYes X.here C.hx rfl (pc0 := 111) (pc' := 118) rfl (hb C.hby at_111) rfl (XT.i0_ne_t (by decide)) (by decide) (by decide) q) ?_
    refine Wl.st (g' := (mkF m 119 #[.val (.int i0), .val (.int (0 : Int32)), .val (.ref s_CREATED), .val (.int (0 : Int32)), .val (.int (0 : Int32)), .val (.int (1 : Int32))] [(.int (0 : Int32)), (.int (0 : Int32))])) (fun X t q => XS.iconst X.here C.hx rfl (hb C.hby at_118) q) ?_
    refine Wl.st (g' := (mkF m 122 #[.val (.int i0), .val (.int (0 : Int32)), .val (.ref s_CREATED), .val (.int (0 : Int32)), .val (.int (0 : Int32)), .val (.int (1 : Int32))] [])) (fun X t q => XS.icmpNo X.here C.hx rfl (hb C.hby at_119) rfl (XT.ii_ne_f (by decide)) q) ?_
    refine Wl.st (g' := (mkF m 123 #[.val (.int i0), .val (.int (0 : Int32)), .val (.ref s_CREATED), .val (.int (0 : Int32)), .val (.int (0 : Int32)), .val (.int (1 : Int32))] [(.int (1 : Int32))])) (fun X t q => XS.iconst X.here C.hx rfl (hb C.hby at_122) q) ?_
    refine Wl.st (g' := (mkF m 127 #[.val (.int i0), .val (.int (0 : Int32)), .val (.ref s_CREATED), .val (.int (0 : Int32)), .val (.int (0 : Int32)), .val (.int (1 : Int32))] [(.int (1 : Int32))])) (fun X t q => XS.goto X.here C.hx rfl (pc0 := 123) (pc' := 127) rfl (hb C.hby at_123) (by decide) (by decide) q) ?_
    exact Wl.retV C (t := .boolean) rfl rfl (Or.inl ⟨rfl, by simp, _, rfl⟩) at_127 (by decide) (by decide) rfl
  · skip
    show Wl p l e _ s m _ below meth c n0 _ none h0 0 0 (mkF m 8 #[.val (.int i0), .val (.int (1 : Int32)), .unset, .unset, .unset, .unset] [])
    refine Wl.st (g' := (mkF m 9 #[.val (.int i0), .val (.int (1 : Int32)), .unset, .unset, .unset, .unset] [(.int (1 : Int32))])) (fun X t q => XS.iloadN X.here C.hx rfl (hb C.hby at_8) rfl q) ?_
    refine Wl.callS C (z := (⟨"com/example/escrow/escrow/TransactionStateIsEndedPinLaw", "pick", "(I)Lcom/example/escrow/escrow/TransactionState;"⟩ : MethodName)) (hw _ (List.mem_of_getElem? (i := 1) rfl)) (hw _ (List.mem_of_getElem? (i := 2) rfl)) (hw _ (List.mem_of_getElem? (i := 3) rfl)) (hw _ (List.mem_of_getElem? (i := 4) rfl)) (by decide) ((own_m1_7 l Z a0 hw n0 h0 s_CREATED s_PENDING s_COMMITTED s_FINISHED s_TERMINATING s_ROLLED_BACK EN ).toL none) (w := 0) (by decide) (by decide) pd_0 rfl (rest := []) rfl rfl (Nat.le_of_eq rfl) (by decide) (by decide) at_9 ?_
    rintro _ _ _ ⟨⟨rfl, rfl⟩, rfl⟩
    show Wl p l e _ s m _ below meth c n0 _ none h0 0 0 (mkF m 12 #[.val (.int i0), .val (.int (1 : Int32)), .unset, .unset, .unset, .unset] [(.ref s_PENDING)])
    refine Wl.st (g' := (mkF m 13 #[.val (.int i0), .val (.int (1 : Int32)), .val (.ref s_PENDING), .unset, .unset, .unset] [])) (fun X t q => XS.astoreN X.here C.hx rfl (hb C.hby at_12) rfl rfl (l' := #[.val (.int i0), .val (.int (1 : Int32)), .val (.ref s_PENDING), .unset, .unset, .unset]) rfl q) ?_
    refine Wl.st (g' := (mkF m 14 #[.val (.int i0), .val (.int (1 : Int32)), .val (.ref s_PENDING), .unset, .unset, .unset] [(.ref s_PENDING)])) (fun X t q => XS.aloadN X.here C.hx rfl (hb C.hby at_13) rfl rfl q) ?_
    refine Wl.callV C (x := (⟨"com/example/escrow/escrow/TransactionState", "isEnded", "()Z"⟩ : MethodName)) (z := (⟨"com/example/escrow/escrow/TransactionState", "isEnded", "()Z"⟩ : MethodName)) (K := "com/example/escrow/escrow/TransactionState") (hw _ (List.mem_of_getElem? (i := 8) rfl)) (hw _ (List.mem_of_getElem? (i := 9) rfl)) (hw _ (List.mem_of_getElem? (i := 11) rfl)) (hw _ (List.mem_of_getElem? (i := 10) rfl)) (hw _ (List.mem_of_getElem? (i := 6) rfl)) (hw _ (List.mem_of_getElem? (i := 12) rfl)) (by decide) (fun s' hZ' => notFace_of_selects (args := #[]) (mvT hZ' (hw _ (List.mem_of_getElem? (i := 11) rfl)))) (en_E_PENDING EN) ((own_m2_8 l Z a0 hw n0 h0 s_CREATED s_PENDING s_COMMITTED s_FINISHED s_TERMINATING s_ROLLED_BACK EN ).toL none) (w := 0) (by decide) (by decide) pd_1 rfl (rest := []) rfl rfl (Nat.le_of_eq rfl) (by decide) (by decide) at_14 ?_
    rintro _ _ _ ⟨⟨rfl, rfl⟩, rfl⟩
    show Wl p l e _ s m _ below meth c n0 _ none h0 0 0 (mkF m 17 #[.val (.int i0), .val (.int (1 : Int32)), .val (.ref s_PENDING), .unset, .unset, .unset] [(.int (0 : Int32))])
    refine Wl.st (g' := (mkF m 18 #[.val (.int i0), .val (.int (1 : Int32)), .val (.ref s_PENDING), .val (.int (0 : Int32)), .unset, .unset] [])) (fun X t q => XS.istoreN X.here C.hx rfl (hb C.hby at_17) rfl (l' := #[.val (.int i0), .val (.int (1 : Int32)), .val (.ref s_PENDING), .val (.int (0 : Int32)), .unset, .unset]) rfl q) ?_
    refine Wl.st (g' := (mkF m 19 #[.val (.int i0), .val (.int (1 : Int32)), .val (.ref s_PENDING), .val (.int (0 : Int32)), .unset, .unset] [(.int (1 : Int32))])) (fun X t q => XS.iloadN X.here C.hx rfl (hb C.hby at_18) rfl q) ?_
    refine Wl.st (g' := (mkF m 20 #[.val (.int i0), .val (.int (1 : Int32)), .val (.ref s_PENDING), .val (.int (0 : Int32)), .unset, .unset] [(.int (3 : Int32)), (.int (1 : Int32))])) (fun X t q => XS.iconst X.here C.hx rfl (hb C.hby at_19) q) ?_
    refine Wl.st (g' := (mkF m 23 #[.val (.int i0), .val (.int (1 : Int32)), .val (.ref s_PENDING), .val (.int (0 : Int32)), .unset, .unset] [])) (fun X t q => XS.icmpNo X.here C.hx rfl (hb C.hby at_20) rfl (XT.ii_eq_f (by decide)) q) ?_
    refine Wl.st (g' := (mkF m 24 #[.val (.int i0), .val (.int (1 : Int32)), .val (.ref s_PENDING), .val (.int (0 : Int32)), .unset, .unset] [(.int (1 : Int32))])) (fun X t q => XS.iloadN X.here C.hx rfl (hb C.hby at_23) rfl q) ?_
    refine Wl.st (g' := (mkF m 25 #[.val (.int i0), .val (.int (1 : Int32)), .val (.ref s_PENDING), .val (.int (0 : Int32)), .unset, .unset] [(.int (5 : Int32)), (.int (1 : Int32))])) (fun X t q => XS.iconst X.here C.hx rfl (hb C.hby at_24) q) ?_
    refine Wl.st (g' := (mkF m 32 #[.val (.int i0), .val (.int (1 : Int32)), .val (.ref s_PENDING), .val (.int (0 : Int32)), .unset, .unset] [])) (fun X t q => XS.icmpYes X.here C.hx rfl (pc0 := 25) (pc' := 32) rfl (hb C.hby at_25) rfl (XT.ii_ne_t (by decide)) (by decide) (by decide) q) ?_
    refine Wl.st (g' := (mkF m 33 #[.val (.int i0), .val (.int (1 : Int32)), .val (.ref s_PENDING), .val (.int (0 : Int32)), .unset, .unset] [(.int (0 : Int32))])) (fun X t q => XS.iconst X.here C.hx rfl (hb C.hby at_32) q) ?_
    refine Wl.st (g' := (mkF m 35 #[.val (.int i0), .val (.int (1 : Int32)), .val (.ref s_PENDING), .val (.int (0 : Int32)), .val (.int (0 : Int32)), .unset] [])) (fun X t q => XS.istore X.here C.hx rfl (hb C.hby at_33) rfl (l' := #[.val (.int i0), .val (.int (1 : Int32)), .val (.ref s_PENDING), .val (.int (0 : Int32)), .val (.int (0 : Int32)), .unset]) rfl q) ?_
    refine Wl.st (g' := (mkF m 36 #[.val (.int i0), .val (.int (1 : Int32)), .val (.ref s_PENDING), .val (.int (0 : Int32)), .val (.int (0 : Int32)), .unset] [(.ref s_PENDING)])) (fun X t q => XS.aloadN X.here C.hx rfl (hb C.hby at_35) rfl rfl q) ?_
    refine Wl.getS C (hw _ (List.mem_of_getElem? (i := 5) rfl)) (en_S_CREATED EN) at_36 ?_
    show Wl p l e _ s m _ below meth c n0 _ none h0 0 0 (mkF m 39 #[.val (.int i0), .val (.int (1 : Int32)), .val (.ref s_PENDING), .val (.int (0 : Int32)), .val (.int (0 : Int32)), .unset] [(.ref s_CREATED), (.ref s_PENDING)])
    refine Wl.callV C (x := (⟨"com/example/escrow/escrow/TransactionState", "canMoveTo", "(Lcom/example/escrow/escrow/TransactionState;)Z"⟩ : MethodName)) (z := (⟨"com/example/escrow/escrow/TransactionState", "canMoveTo", "(Lcom/example/escrow/escrow/TransactionState;)Z"⟩ : MethodName)) (K := "com/example/escrow/escrow/TransactionState") (hw _ (List.mem_of_getElem? (i := 17) rfl)) (hw _ (List.mem_of_getElem? (i := 18) rfl)) (hw _ (List.mem_of_getElem? (i := 20) rfl)) (hw _ (List.mem_of_getElem? (i := 19) rfl)) (hw _ (List.mem_of_getElem? (i := 6) rfl)) (hw _ (List.mem_of_getElem? (i := 21) rfl)) (by decide) (fun s' hZ' => notFace_of_selects (args := #[]) (mvT hZ' (hw _ (List.mem_of_getElem? (i := 20) rfl)))) (en_E_PENDING EN) (own_c9 l Z a0 hw n0 h0 s_CREATED s_PENDING s_COMMITTED s_FINISHED s_TERMINATING s_ROLLED_BACK EN) (w := 0) (by decide) (by decide) pd_2 rfl (rest := []) rfl rfl (Nat.le_of_eq rfl) (by decide) (by decide) at_39 ?_
    rintro _ h4 _ ⟨rfl, E5, a6, rfl⟩
    show Wl p l e _ s m _ below meth c n0 _ (some ("com/example/escrow/escrow/TransactionState", 57, a6)) h4 2 20 (mkF m 42 #[.val (.int i0), .val (.int (1 : Int32)), .val (.ref s_PENDING), .val (.int (0 : Int32)), .val (.int (0 : Int32)), .unset] [(.int (0 : Int32))])
    refine Wl.st (g' := (mkF m 45 #[.val (.int i0), .val (.int (1 : Int32)), .val (.ref s_PENDING), .val (.int (0 : Int32)), .val (.int (0 : Int32)), .unset] [])) (fun X t q => XS.ifNo X.here C.hx rfl (hb C.hby at_42) rfl (XT.i0_ne_f (by decide)) q) ?_
    refine Wl.st (g' := (mkF m 46 #[.val (.int i0), .val (.int (1 : Int32)), .val (.ref s_PENDING), .val (.int (0 : Int32)), .val (.int (0 : Int32)), .unset] [(.ref s_PENDING)])) (fun X t q => XS.aloadN X.here C.hx rfl (hb C.hby at_45) rfl rfl q) ?_
    refine Wl.getS C (hw _ (List.mem_of_getElem? (i := 47) rfl)) (en_S_PENDING (EN.ext E5)) at_46 ?_
    show Wl p l e _ s m _ below meth c n0 _ (some ("com/example/escrow/escrow/TransactionState", 57, a6)) h4 2 20 (mkF m 49 #[.val (.int i0), .val (.int (1 : Int32)), .val (.ref s_PENDING), .val (.int (0 : Int32)), .val (.int (0 : Int32)), .unset] [(.ref s_PENDING), (.ref s_PENDING)])
    refine Wl.callV C (x := (⟨"com/example/escrow/escrow/TransactionState", "canMoveTo", "(Lcom/example/escrow/escrow/TransactionState;)Z"⟩ : MethodName)) (z := (⟨"com/example/escrow/escrow/TransactionState", "canMoveTo", "(Lcom/example/escrow/escrow/TransactionState;)Z"⟩ : MethodName)) (K := "com/example/escrow/escrow/TransactionState") (hw _ (List.mem_of_getElem? (i := 17) rfl)) (hw _ (List.mem_of_getElem? (i := 18) rfl)) (hw _ (List.mem_of_getElem? (i := 20) rfl)) (hw _ (List.mem_of_getElem? (i := 19) rfl)) (hw _ (List.mem_of_getElem? (i := 6) rfl)) (hw _ (List.mem_of_getElem? (i := 21) rfl)) (by decide) (fun s' hZ' => notFace_of_selects (args := #[]) (mvT hZ' (hw _ (List.mem_of_getElem? (i := 20) rfl)))) (en_E_PENDING (EN.ext E5)) (own_c11 l Z a0 hw n0 h4 s_CREATED s_PENDING s_COMMITTED s_FINISHED s_TERMINATING s_ROLLED_BACK (EN.ext E5) a6) (w := 0) (by decide) (by decide) pd_2 rfl (rest := []) rfl rfl (Nat.le_of_eq rfl) (by decide) (by decide) at_49 ?_
    rintro _ _ _ ⟨rfl, rfl, rfl⟩
    show Wl p l e _ s m _ below meth c n0 _ (some ("com/example/escrow/escrow/TransactionState", 57, a6)) h4 2 20 (mkF m 52 #[.val (.int i0), .val (.int (1 : Int32)), .val (.ref s_PENDING), .val (.int (0 : Int32)), .val (.int (0 : Int32)), .unset] [(.int (0 : Int32))])
    refine Wl.st (g' := (mkF m 55 #[.val (.int i0), .val (.int (1 : Int32)), .val (.ref s_PENDING), .val (.int (0 : Int32)), .val (.int (0 : Int32)), .unset] [])) (fun X t q => XS.ifNo X.here C.hx rfl (hb C.hby at_52) rfl (XT.i0_ne_f (by decide)) q) ?_
    refine Wl.st (g' := (mkF m 56 #[.val (.int i0), .val (.int (1 : Int32)), .val (.ref s_PENDING), .val (.int (0 : Int32)), .val (.int (0 : Int32)), .unset] [(.ref s_PENDING)])) (fun X t q => XS.aloadN X.here C.hx rfl (hb C.hby at_55) rfl rfl q) ?_
    refine Wl.getS C (hw _ (List.mem_of_getElem? (i := 49) rfl)) (en_S_COMMITTED (EN.ext E5)) at_56 ?_
    show Wl p l e _ s m _ below meth c n0 _ (some ("com/example/escrow/escrow/TransactionState", 57, a6)) h4 2 20 (mkF m 59 #[.val (.int i0), .val (.int (1 : Int32)), .val (.ref s_PENDING), .val (.int (0 : Int32)), .val (.int (0 : Int32)), .unset] [(.ref s_COMMITTED), (.ref s_PENDING)])
    refine Wl.callV C (x := (⟨"com/example/escrow/escrow/TransactionState", "canMoveTo", "(Lcom/example/escrow/escrow/TransactionState;)Z"⟩ : MethodName)) (z := (⟨"com/example/escrow/escrow/TransactionState", "canMoveTo", "(Lcom/example/escrow/escrow/TransactionState;)Z"⟩ : MethodName)) (K := "com/example/escrow/escrow/TransactionState") (hw _ (List.mem_of_getElem? (i := 17) rfl)) (hw _ (List.mem_of_getElem? (i := 18) rfl)) (hw _ (List.mem_of_getElem? (i := 20) rfl)) (hw _ (List.mem_of_getElem? (i := 19) rfl)) (hw _ (List.mem_of_getElem? (i := 6) rfl)) (hw _ (List.mem_of_getElem? (i := 21) rfl)) (by decide) (fun s' hZ' => notFace_of_selects (args := #[]) (mvT hZ' (hw _ (List.mem_of_getElem? (i := 20) rfl)))) (en_E_PENDING (EN.ext E5)) (own_c12 l Z a0 hw n0 h4 s_CREATED s_PENDING s_COMMITTED s_FINISHED s_TERMINATING s_ROLLED_BACK (EN.ext E5) a6) (w := 0) (by decide) (by decide) pd_2 rfl (rest := []) rfl rfl (Nat.le_of_eq rfl) (by decide) (by decide) at_59 ?_
    rintro _ _ _ ⟨rfl, rfl, rfl⟩
    show Wl p l e _ s m _ below meth c n0 _ (some ("com/example/escrow/escrow/TransactionState", 57, a6)) h4 2 20 (mkF m 62 #[.val (.int i0), .val (.int (1 : Int32)), .val (.ref s_PENDING), .val (.int (0 : Int32)), .val (.int (0 : Int32)), .unset] [(.int (1 : Int32))])
    refine Wl.st (g' := (mkF m 95 #[.val (.int i0), .val (.int (1 : Int32)), .val (.ref s_PENDING), .val (.int (0 : Int32)), .val (.int (0 : Int32)), .unset] [])) (fun X t q => XS.ifYes X.here C.hx rfl (pc0 := 62) (pc' := 95) rfl (hb C.hby at_62) rfl (XT.i0_ne_t (by decide)) (by decide) (by decide) q) ?_
    refine Wl.st (g' := (mkF m 96 #[.val (.int i0), .val (.int (1 : Int32)), .val (.ref s_PENDING), .val (.int (0 : Int32)), .val (.int (0 : Int32)), .unset] [(.int (1 : Int32))])) (fun X t q => XS.iconst X.here C.hx rfl (hb C.hby at_95) q) ?_
    refine Wl.st (g' := (mkF m 100 #[.val (.int i0), .val (.int (1 : Int32)), .val (.ref s_PENDING), .val (.int (0 : Int32)), .val (.int (0 : Int32)), .unset] [(.int (1 : Int32))])) (fun X t q => XS.goto X.here C.hx rfl (pc0 := 96) (pc' := 100) rfl (hb C.hby at_96) (by decide) (by decide) q) ?_
    refine Wl.st (g' := (mkF m 102 #[.val (.int i0), .val (.int (1 : Int32)), .val (.ref s_PENDING), .val (.int (0 : Int32)), .val (.int (0 : Int32)), .val (.int (1 : Int32))] [])) (fun X t q => XS.istore X.here C.hx rfl (hb C.hby at_100) rfl (l' := #[.val (.int i0), .val (.int (1 : Int32)), .val (.ref s_PENDING), .val (.int (0 : Int32)), .val (.int (0 : Int32)), .val (.int (1 : Int32))]) rfl q) ?_
    refine Wl.st (g' := (mkF m 103 #[.val (.int i0), .val (.int (1 : Int32)), .val (.ref s_PENDING), .val (.int (0 : Int32)), .val (.int (0 : Int32)), .val (.int (1 : Int32))] [(.int (0 : Int32))])) (fun X t q => XS.iloadN X.here C.hx rfl (hb C.hby at_102) rfl q) ?_
    refine Wl.st (g' := (mkF m 105 #[.val (.int i0), .val (.int (1 : Int32)), .val (.ref s_PENDING), .val (.int (0 : Int32)), .val (.int (0 : Int32)), .val (.int (1 : Int32))] [(.int (0 : Int32)), (.int (0 : Int32))])) (fun X t q => XS.iload X.here C.hx rfl (hb C.hby at_103) rfl q) ?_
    refine Wl.st (g' := (mkF m 108 #[.val (.int i0), .val (.int (1 : Int32)), .val (.ref s_PENDING), .val (.int (0 : Int32)), .val (.int (0 : Int32)), .val (.int (1 : Int32))] [])) (fun X t q => XS.icmpNo X.here C.hx rfl (hb C.hby at_105) rfl (XT.ii_ne_f (by decide)) q) ?_
    refine Wl.st (g' := (mkF m 109 #[.val (.int i0), .val (.int (1 : Int32)), .val (.ref s_PENDING), .val (.int (0 : Int32)), .val (.int (0 : Int32)), .val (.int (1 : Int32))] [(.int (0 : Int32))])) (fun X t q => XS.iloadN X.here C.hx rfl (hb C.hby at_108) rfl q) ?_
    refine Wl.st (g' := (mkF m 111 #[.val (.int i0), .val (.int (1 : Int32)), .val (.ref s_PENDING), .val (.int (0 : Int32)), .val (.int (0 : Int32)), .val (.int (1 : Int32))] [(.int (1 : Int32)), (.int (0 : Int32))])) (fun X t q => XS.iload X.here C.hx rfl (hb C.hby at_109) rfl q) ?_
    refine Wl.st (g' := (mkF m 118 #[.val (.int i0), .val (.int (1 : Int32)), .val (.ref s_PENDING), .val (.int (0 : Int32)), .val (.int (0 : Int32)), .val (.int (1 : Int32))] [(.int (0 : Int32))])) (fun X t q => XS.ifYes X.here C.hx rfl (pc0 := 111) (pc' := 118) rfl (hb C.hby at_111) rfl (XT.i0_ne_t (by decide)) (by decide) (by decide) q) ?_
    refine Wl.st (g' := (mkF m 119 #[.val (.int i0), .val (.int (1 : Int32)), .val (.ref s_PENDING), .val (.int (0 : Int32)), .val (.int (0 : Int32)), .val (.int (1 : Int32))] [(.int (0 : Int32)), (.int (0 : Int32))])) (fun X t q => XS.iconst X.here C.hx rfl (hb C.hby at_118) q) ?_
    refine Wl.st (g' := (mkF m 122 #[.val (.int i0), .val (.int (1 : Int32)), .val (.ref s_PENDING), .val (.int (0 : Int32)), .val (.int (0 : Int32)), .val (.int (1 : Int32))] [])) (fun X t q => XS.icmpNo X.here C.hx rfl (hb C.hby at_119) rfl (XT.ii_ne_f (by decide)) q) ?_
    refine Wl.st (g' := (mkF m 123 #[.val (.int i0), .val (.int (1 : Int32)), .val (.ref s_PENDING), .val (.int (0 : Int32)), .val (.int (0 : Int32)), .val (.int (1 : Int32))] [(.int (1 : Int32))])) (fun X t q => XS.iconst X.here C.hx rfl (hb C.hby at_122) q) ?_
    refine Wl.st (g' := (mkF m 127 #[.val (.int i0), .val (.int (1 : Int32)), .val (.ref s_PENDING), .val (.int (0 : Int32)), .val (.int (0 : Int32)), .val (.int (1 : Int32))] [(.int (1 : Int32))])) (fun X t q => XS.goto X.here C.hx rfl (pc0 := 123) (pc' := 127) rfl (hb C.hby at_123) (by decide) (by decide) q) ?_
    exact Wl.retV C (t := .boolean) rfl rfl (Or.inl ⟨rfl, by simp, _, rfl⟩) at_127 (by decide) (by decide) rfl
  · skip
    show Wl p l e _ s m _ below meth c n0 _ none h0 0 0 (mkF m 8 #[.val (.int i0), .val (.int (2 : Int32)), .unset, .unset, .unset, .unset] [])
    refine Wl.st (g' := (mkF m 9 #[.val (.int i0), .val (.int (2 : Int32)), .unset, .unset, .unset, .unset] [(.int (2 : Int32))])) (fun X t q => XS.iloadN X.here C.hx rfl (hb C.hby at_8) rfl q) ?_
    refine Wl.callS C (z := (⟨"com/example/escrow/escrow/TransactionStateIsEndedPinLaw", "pick", "(I)Lcom/example/escrow/escrow/TransactionState;"⟩ : MethodName)) (hw _ (List.mem_of_getElem? (i := 1) rfl)) (hw _ (List.mem_of_getElem? (i := 2) rfl)) (hw _ (List.mem_of_getElem? (i := 3) rfl)) (hw _ (List.mem_of_getElem? (i := 4) rfl)) (by decide) ((own_m1_14 l Z a0 hw n0 h0 s_CREATED s_PENDING s_COMMITTED s_FINISHED s_TERMINATING s_ROLLED_BACK EN ).toL none) (w := 0) (by decide) (by decide) pd_0 rfl (rest := []) rfl rfl (Nat.le_of_eq rfl) (by decide) (by decide) at_9 ?_
    rintro _ _ _ ⟨⟨rfl, rfl⟩, rfl⟩
    show Wl p l e _ s m _ below meth c n0 _ none h0 0 0 (mkF m 12 #[.val (.int i0), .val (.int (2 : Int32)), .unset, .unset, .unset, .unset] [(.ref s_COMMITTED)])
    refine Wl.st (g' := (mkF m 13 #[.val (.int i0), .val (.int (2 : Int32)), .val (.ref s_COMMITTED), .unset, .unset, .unset] [])) (fun X t q => XS.astoreN X.here C.hx rfl (hb C.hby at_12) rfl rfl (l' := #[.val (.int i0), .val (.int (2 : Int32)), .val (.ref s_COMMITTED), .unset, .unset, .unset]) rfl q) ?_
    refine Wl.st (g' := (mkF m 14 #[.val (.int i0), .val (.int (2 : Int32)), .val (.ref s_COMMITTED), .unset, .unset, .unset] [(.ref s_COMMITTED)])) (fun X t q => XS.aloadN X.here C.hx rfl (hb C.hby at_13) rfl rfl q) ?_
    refine Wl.callV C (x := (⟨"com/example/escrow/escrow/TransactionState", "isEnded", "()Z"⟩ : MethodName)) (z := (⟨"com/example/escrow/escrow/TransactionState", "isEnded", "()Z"⟩ : MethodName)) (K := "com/example/escrow/escrow/TransactionState") (hw _ (List.mem_of_getElem? (i := 8) rfl)) (hw _ (List.mem_of_getElem? (i := 9) rfl)) (hw _ (List.mem_of_getElem? (i := 11) rfl)) (hw _ (List.mem_of_getElem? (i := 10) rfl)) (hw _ (List.mem_of_getElem? (i := 6) rfl)) (hw _ (List.mem_of_getElem? (i := 12) rfl)) (by decide) (fun s' hZ' => notFace_of_selects (args := #[]) (mvT hZ' (hw _ (List.mem_of_getElem? (i := 11) rfl)))) (en_E_COMMITTED EN) ((own_m2_15 l Z a0 hw n0 h0 s_CREATED s_PENDING s_COMMITTED s_FINISHED s_TERMINATING s_ROLLED_BACK EN ).toL none) (w := 0) (by decide) (by decide) pd_1 rfl (rest := []) rfl rfl (Nat.le_of_eq rfl) (by decide) (by decide) at_14 ?_
    rintro _ _ _ ⟨⟨rfl, rfl⟩, rfl⟩
    show Wl p l e _ s m _ below meth c n0 _ none h0 0 0 (mkF m 17 #[.val (.int i0), .val (.int (2 : Int32)), .val (.ref s_COMMITTED), .unset, .unset, .unset] [(.int (0 : Int32))])
    refine Wl.st (g' := (mkF m 18 #[.val (.int i0), .val (.int (2 : Int32)), .val (.ref s_COMMITTED), .val (.int (0 : Int32)), .unset, .unset] [])) (fun X t q => XS.istoreN X.here C.hx rfl (hb C.hby at_17) rfl (l' := #[.val (.int i0), .val (.int (2 : Int32)), .val (.ref s_COMMITTED), .val (.int (0 : Int32)), .unset, .unset]) rfl q) ?_
    refine Wl.st (g' := (mkF m 19 #[.val (.int i0), .val (.int (2 : Int32)), .val (.ref s_COMMITTED), .val (.int (0 : Int32)), .unset, .unset] [(.int (2 : Int32))])) (fun X t q => XS.iloadN X.here C.hx rfl (hb C.hby at_18) rfl q) ?_
    refine Wl.st (g' := (mkF m 20 #[.val (.int i0), .val (.int (2 : Int32)), .val (.ref s_COMMITTED), .val (.int (0 : Int32)), .unset, .unset] [(.int (3 : Int32)), (.int (2 : Int32))])) (fun X t q => XS.iconst X.here C.hx rfl (hb C.hby at_19) q) ?_
    refine Wl.st (g' := (mkF m 23 #[.val (.int i0), .val (.int (2 : Int32)), .val (.ref s_COMMITTED), .val (.int (0 : Int32)), .unset, .unset] [])) (fun X t q => XS.icmpNo X.here C.hx rfl (hb C.hby at_20) rfl (XT.ii_eq_f (by decide)) q) ?_
    refine Wl.st (g' := (mkF m 24 #[.val (.int i0), .val (.int (2 : Int32)), .val (.ref s_COMMITTED), .val (.int (0 : Int32)), .unset, .unset] [(.int (2 : Int32))])) (fun X t q => XS.iloadN X.here C.hx rfl (hb C.hby at_23) rfl q) ?_
    refine Wl.st (g' := (mkF m 25 #[.val (.int i0), .val (.int (2 : Int32)), .val (.ref s_COMMITTED), .val (.int (0 : Int32)), .unset, .unset] [(.int (5 : Int32)), (.int (2 : Int32))])) (fun X t q => XS.iconst X.here C.hx rfl (hb C.hby at_24) q) ?_
    refine Wl.st (g' := (mkF m 32 #[.val (.int i0), .val (.int (2 : Int32)), .val (.ref s_COMMITTED), .val (.int (0 : Int32)), .unset, .unset] [])) (fun X t q => XS.icmpYes X.here C.hx rfl (pc0 := 25) (pc' := 32) rfl (hb C.hby at_25) rfl (XT.ii_ne_t (by decide)) (by decide) (by decide) q) ?_
    refine Wl.st (g' := (mkF m 33 #[.val (.int i0), .val (.int (2 : Int32)), .val (.ref s_COMMITTED), .val (.int (0 : Int32)), .unset, .unset] [(.int (0 : Int32))])) (fun X t q => XS.iconst X.here C.hx rfl (hb C.hby at_32) q) ?_
    refine Wl.st (g' := (mkF m 35 #[.val (.int i0), .val (.int (2 : Int32)), .val (.ref s_COMMITTED), .val (.int (0 : Int32)), .val (.int (0 : Int32)), .unset] [])) (fun X t q => XS.istore X.here C.hx rfl (hb C.hby at_33) rfl (l' := #[.val (.int i0), .val (.int (2 : Int32)), .val (.ref s_COMMITTED), .val (.int (0 : Int32)), .val (.int (0 : Int32)), .unset]) rfl q) ?_
    refine Wl.st (g' := (mkF m 36 #[.val (.int i0), .val (.int (2 : Int32)), .val (.ref s_COMMITTED), .val (.int (0 : Int32)), .val (.int (0 : Int32)), .unset] [(.ref s_COMMITTED)])) (fun X t q => XS.aloadN X.here C.hx rfl (hb C.hby at_35) rfl rfl q) ?_
    refine Wl.getS C (hw _ (List.mem_of_getElem? (i := 5) rfl)) (en_S_CREATED EN) at_36 ?_
    show Wl p l e _ s m _ below meth c n0 _ none h0 0 0 (mkF m 39 #[.val (.int i0), .val (.int (2 : Int32)), .val (.ref s_COMMITTED), .val (.int (0 : Int32)), .val (.int (0 : Int32)), .unset] [(.ref s_CREATED), (.ref s_COMMITTED)])
    refine Wl.callV C (x := (⟨"com/example/escrow/escrow/TransactionState", "canMoveTo", "(Lcom/example/escrow/escrow/TransactionState;)Z"⟩ : MethodName)) (z := (⟨"com/example/escrow/escrow/TransactionState", "canMoveTo", "(Lcom/example/escrow/escrow/TransactionState;)Z"⟩ : MethodName)) (K := "com/example/escrow/escrow/TransactionState") (hw _ (List.mem_of_getElem? (i := 17) rfl)) (hw _ (List.mem_of_getElem? (i := 18) rfl)) (hw _ (List.mem_of_getElem? (i := 20) rfl)) (hw _ (List.mem_of_getElem? (i := 19) rfl)) (hw _ (List.mem_of_getElem? (i := 6) rfl)) (hw _ (List.mem_of_getElem? (i := 21) rfl)) (by decide) (fun s' hZ' => notFace_of_selects (args := #[]) (mvT hZ' (hw _ (List.mem_of_getElem? (i := 20) rfl)))) (en_E_COMMITTED EN) (own_c16 l Z a0 hw n0 h0 s_CREATED s_PENDING s_COMMITTED s_FINISHED s_TERMINATING s_ROLLED_BACK EN) (w := 0) (by decide) (by decide) pd_2 rfl (rest := []) rfl rfl (Nat.le_of_eq rfl) (by decide) (by decide) at_39 ?_
    rintro _ h7 _ ⟨rfl, E8, a9, rfl⟩
    show Wl p l e _ s m _ below meth c n0 _ (some ("com/example/escrow/escrow/TransactionState", 57, a9)) h7 2 20 (mkF m 42 #[.val (.int i0), .val (.int (2 : Int32)), .val (.ref s_COMMITTED), .val (.int (0 : Int32)), .val (.int (0 : Int32)), .unset] [(.int (0 : Int32))])
    refine Wl.st (g' := (mkF m 45 #[.val (.int i0), .val (.int (2 : Int32)), .val (.ref s_COMMITTED), .val (.int (0 : Int32)), .val (.int (0 : Int32)), .unset] [])) (fun X t q => XS.ifNo X.here C.hx rfl (hb C.hby at_42) rfl (XT.i0_ne_f (by decide)) q) ?_
    refine Wl.st (g' := (mkF m 46 #[.val (.int i0), .val (.int (2 : Int32)), .val (.ref s_COMMITTED), .val (.int (0 : Int32)), .val (.int (0 : Int32)), .unset] [(.ref s_COMMITTED)])) (fun X t q => XS.aloadN X.here C.hx rfl (hb C.hby at_45) rfl rfl q) ?_
    refine Wl.getS C (hw _ (List.mem_of_getElem? (i := 47) rfl)) (en_S_PENDING (EN.ext E8)) at_46 ?_
    show Wl p l e _ s m _ below meth c n0 _ (some ("com/example/escrow/escrow/TransactionState", 57, a9)) h7 2 20 (mkF m 49 #[.val (.int i0), .val (.int (2 : Int32)), .val (.ref s_COMMITTED), .val (.int (0 : Int32)), .val (.int (0 : Int32)), .unset] [(.ref s_PENDING), (.ref s_COMMITTED)])
    refine Wl.callV C (x := (⟨"com/example/escrow/escrow/TransactionState", "canMoveTo", "(Lcom/example/escrow/escrow/TransactionState;)Z"⟩ : MethodName)) (z := (⟨"com/example/escrow/escrow/TransactionState", "canMoveTo", "(Lcom/example/escrow/escrow/TransactionState;)Z"⟩ : MethodName)) (K := "com/example/escrow/escrow/TransactionState") (hw _ (List.mem_of_getElem? (i := 17) rfl)) (hw _ (List.mem_of_getElem? (i := 18) rfl)) (hw _ (List.mem_of_getElem? (i := 20) rfl)) (hw _ (List.mem_of_getElem? (i := 19) rfl)) (hw _ (List.mem_of_getElem? (i := 6) rfl)) (hw _ (List.mem_of_getElem? (i := 21) rfl)) (by decide) (fun s' hZ' => notFace_of_selects (args := #[]) (mvT hZ' (hw _ (List.mem_of_getElem? (i := 20) rfl)))) (en_E_COMMITTED (EN.ext E8)) (own_c18 l Z a0 hw n0 h7 s_CREATED s_PENDING s_COMMITTED s_FINISHED s_TERMINATING s_ROLLED_BACK (EN.ext E8) a9) (w := 0) (by decide) (by decide) pd_2 rfl (rest := []) rfl rfl (Nat.le_of_eq rfl) (by decide) (by decide) at_49 ?_
    rintro _ _ _ ⟨rfl, rfl, rfl⟩
    show Wl p l e _ s m _ below meth c n0 _ (some ("com/example/escrow/escrow/TransactionState", 57, a9)) h7 2 20 (mkF m 52 #[.val (.int i0), .val (.int (2 : Int32)), .val (.ref s_COMMITTED), .val (.int (0 : Int32)), .val (.int (0 : Int32)), .unset] [(.int (0 : Int32))])
    refine Wl.st (g' := (mkF m 55 #[.val (.int i0), .val (.int (2 : Int32)), .val (.ref s_COMMITTED), .val (.int (0 : Int32)), .val (.int (0 : Int32)), .unset] [])) (fun X t q => XS.ifNo X.here C.hx rfl (hb C.hby at_52) rfl (XT.i0_ne_f (by decide)) q) ?_
    refine Wl.st (g' := (mkF m 56 #[.val (.int i0), .val (.int (2 : Int32)), .val (.ref s_COMMITTED), .val (.int (0 : Int32)), .val (.int (0 : Int32)), .unset] [(.ref s_COMMITTED)])) (fun X t q => XS.aloadN X.here C.hx rfl (hb C.hby at_55) rfl rfl q) ?_
    refine Wl.getS C (hw _ (List.mem_of_getElem? (i := 49) rfl)) (en_S_COMMITTED (EN.ext E8)) at_56 ?_
    show Wl p l e _ s m _ below meth c n0 _ (some ("com/example/escrow/escrow/TransactionState", 57, a9)) h7 2 20 (mkF m 59 #[.val (.int i0), .val (.int (2 : Int32)), .val (.ref s_COMMITTED), .val (.int (0 : Int32)), .val (.int (0 : Int32)), .unset] [(.ref s_COMMITTED), (.ref s_COMMITTED)])
    refine Wl.callV C (x := (⟨"com/example/escrow/escrow/TransactionState", "canMoveTo", "(Lcom/example/escrow/escrow/TransactionState;)Z"⟩ : MethodName)) (z := (⟨"com/example/escrow/escrow/TransactionState", "canMoveTo", "(Lcom/example/escrow/escrow/TransactionState;)Z"⟩ : MethodName)) (K := "com/example/escrow/escrow/TransactionState") (hw _ (List.mem_of_getElem? (i := 17) rfl)) (hw _ (List.mem_of_getElem? (i := 18) rfl)) (hw _ (List.mem_of_getElem? (i := 20) rfl)) (hw _ (List.mem_of_getElem? (i := 19) rfl)) (hw _ (List.mem_of_getElem? (i := 6) rfl)) (hw _ (List.mem_of_getElem? (i := 21) rfl)) (by decide) (fun s' hZ' => notFace_of_selects (args := #[]) (mvT hZ' (hw _ (List.mem_of_getElem? (i := 20) rfl)))) (en_E_COMMITTED (EN.ext E8)) (own_c19 l Z a0 hw n0 h7 s_CREATED s_PENDING s_COMMITTED s_FINISHED s_TERMINATING s_ROLLED_BACK (EN.ext E8) a9) (w := 0) (by decide) (by decide) pd_2 rfl (rest := []) rfl rfl (Nat.le_of_eq rfl) (by decide) (by decide) at_59 ?_
    rintro _ _ _ ⟨rfl, rfl, rfl⟩
    show Wl p l e _ s m _ below meth c n0 _ (some ("com/example/escrow/escrow/TransactionState", 57, a9)) h7 2 20 (mkF m 62 #[.val (.int i0), .val (.int (2 : Int32)), .val (.ref s_COMMITTED), .val (.int (0 : Int32)), .val (.int (0 : Int32)), .unset] [(.int (0 : Int32))])
    refine Wl.st (g' := (mkF m 65 #[.val (.int i0), .val (.int (2 : Int32)), .val (.ref s_COMMITTED), .val (.int (0 : Int32)), .val (.int (0 : Int32)), .unset] [])) (fun X t q => XS.ifNo X.here C.hx rfl (hb C.hby at_62) rfl (XT.i0_ne_f (by decide)) q) ?_
    refine Wl.st (g' := (mkF m 66 #[.val (.int i0), .val (.int (2 : Int32)), .val (.ref s_COMMITTED), .val (.int (0 : Int32)), .val (.int (0 : Int32)), .unset] [(.ref s_COMMITTED)])) (fun X t q => XS.aloadN X.here C.hx rfl (hb C.hby at_65) rfl rfl q) ?_
    refine Wl.getS C (hw _ (List.mem_of_getElem? (i := 48) rfl)) (en_S_FINISHED (EN.ext E8)) at_66 ?_
    show Wl p l e _ s m _ below meth c n0 _ (some ("com/example/escrow/escrow/TransactionState", 57, a9)) h7 2 20 (mkF m 69 #[.val (.int i0), .val (.int (2 : Int32)), .val (.ref s_COMMITTED), .val (.int (0 : Int32)), .val (.int (0 : Int32)), .unset] [(.ref s_FINISHED), (.ref s_COMMITTED)])
    refine Wl.callV C (x := (⟨"com/example/escrow/escrow/TransactionState", "canMoveTo", "(Lcom/example/escrow/escrow/TransactionState;)Z"⟩ : MethodName)) (z := (⟨"com/example/escrow/escrow/TransactionState", "canMoveTo", "(Lcom/example/escrow/escrow/TransactionState;)Z"⟩ : MethodName)) (K := "com/example/escrow/escrow/TransactionState") (hw _ (List.mem_of_getElem? (i := 17) rfl)) (hw _ (List.mem_of_getElem? (i := 18) rfl)) (hw _ (List.mem_of_getElem? (i := 20) rfl)) (hw _ (List.mem_of_getElem? (i := 19) rfl)) (hw _ (List.mem_of_getElem? (i := 6) rfl)) (hw _ (List.mem_of_getElem? (i := 21) rfl)) (by decide) (fun s' hZ' => notFace_of_selects (args := #[]) (mvT hZ' (hw _ (List.mem_of_getElem? (i := 20) rfl)))) (en_E_COMMITTED (EN.ext E8)) (own_c20 l Z a0 hw n0 h7 s_CREATED s_PENDING s_COMMITTED s_FINISHED s_TERMINATING s_ROLLED_BACK (EN.ext E8) a9) (w := 0) (by decide) (by decide) pd_2 rfl (rest := []) rfl rfl (Nat.le_of_eq rfl) (by decide) (by decide) at_69 ?_
    rintro _ _ _ ⟨rfl, rfl, rfl⟩
    show Wl p l e _ s m _ below meth c n0 _ (some ("com/example/escrow/escrow/TransactionState", 57, a9)) h7 2 20 (mkF m 72 #[.val (.int i0), .val (.int (2 : Int32)), .val (.ref s_COMMITTED), .val (.int (0 : Int32)), .val (.int (0 : Int32)), .unset] [(.int (1 : Int32))])
    refine Wl.st (g' := (mkF m 95 #[.val (.int i0), .val (.int (2 : Int32)), .val (.ref s_COMMITTED), .val (.int (0 : Int32)), .val (.int (0 : Int32)), .unset] [])) (fun X t q => XS.ifYes X.here C.hx rfl (pc0 := 72) (pc' := 95) rfl (hb C.hby at_72) rfl (XT.i0_ne_t (by decide)) (by decide) (by decide) q) ?_
    refine Wl.st (g' := (mkF m 96 #[.val (.int i0), .val (.int (2 : Int32)), .val (.ref s_COMMITTED), .val (.int (0 : Int32)), .val (.int (0 : Int32)), .unset] [(.int (1 : Int32))])) (fun X t q => XS.iconst X.here C.hx rfl (hb C.hby at_95) q) ?_
    refine Wl.st (g' := (mkF m 100 #[.val (.int i0), .val (.int (2 : Int32)), .val (.ref s_COMMITTED), .val (.int (0 : Int32)), .val (.int (0 : Int32)), .unset] [(.int (1 : Int32))])) (fun X t q => XS.goto X.here C.hx rfl (pc0 := 96) (pc' := 100) rfl (hb C.hby at_96) (by decide) (by decide) q) ?_
    refine Wl.st (g' := (mkF m 102 #[.val (.int i0), .val (.int (2 : Int32)), .val (.ref s_COMMITTED), .val (.int (0 : Int32)), .val (.int (0 : Int32)), .val (.int (1 : Int32))] [])) (fun X t q => XS.istore X.here C.hx rfl (hb C.hby at_100) rfl (l' := #[.val (.int i0), .val (.int (2 : Int32)), .val (.ref s_COMMITTED), .val (.int (0 : Int32)), .val (.int (0 : Int32)), .val (.int (1 : Int32))]) rfl q) ?_
    refine Wl.st (g' := (mkF m 103 #[.val (.int i0), .val (.int (2 : Int32)), .val (.ref s_COMMITTED), .val (.int (0 : Int32)), .val (.int (0 : Int32)), .val (.int (1 : Int32))] [(.int (0 : Int32))])) (fun X t q => XS.iloadN X.here C.hx rfl (hb C.hby at_102) rfl q) ?_
    refine Wl.st (g' := (mkF m 105 #[.val (.int i0), .val (.int (2 : Int32)), .val (.ref s_COMMITTED), .val (.int (0 : Int32)), .val (.int (0 : Int32)), .val (.int (1 : Int32))] [(.int (0 : Int32)), (.int (0 : Int32))])) (fun X t q => XS.iload X.here C.hx rfl (hb C.hby at_103) rfl q) ?_
    refine Wl.st (g' := (mkF m 108 #[.val (.int i0), .val (.int (2 : Int32)), .val (.ref s_COMMITTED), .val (.int (0 : Int32)), .val (.int (0 : Int32)), .val (.int (1 : Int32))] [])) (fun X t q => XS.icmpNo X.here C.hx rfl (hb C.hby at_105) rfl (XT.ii_ne_f (by decide)) q) ?_
    refine Wl.st (g' := (mkF m 109 #[.val (.int i0), .val (.int (2 : Int32)), .val (.ref s_COMMITTED), .val (.int (0 : Int32)), .val (.int (0 : Int32)), .val (.int (1 : Int32))] [(.int (0 : Int32))])) (fun X t q => XS.iloadN X.here C.hx rfl (hb C.hby at_108) rfl q) ?_
    refine Wl.st (g' := (mkF m 111 #[.val (.int i0), .val (.int (2 : Int32)), .val (.ref s_COMMITTED), .val (.int (0 : Int32)), .val (.int (0 : Int32)), .val (.int (1 : Int32))] [(.int (1 : Int32)), (.int (0 : Int32))])) (fun X t q => XS.iload X.here C.hx rfl (hb C.hby at_109) rfl q) ?_
    refine Wl.st (g' := (mkF m 118 #[.val (.int i0), .val (.int (2 : Int32)), .val (.ref s_COMMITTED), .val (.int (0 : Int32)), .val (.int (0 : Int32)), .val (.int (1 : Int32))] [(.int (0 : Int32))])) (fun X t q => XS.ifYes X.here C.hx rfl (pc0 := 111) (pc' := 118) rfl (hb C.hby at_111) rfl (XT.i0_ne_t (by decide)) (by decide) (by decide) q) ?_
    refine Wl.st (g' := (mkF m 119 #[.val (.int i0), .val (.int (2 : Int32)), .val (.ref s_COMMITTED), .val (.int (0 : Int32)), .val (.int (0 : Int32)), .val (.int (1 : Int32))] [(.int (0 : Int32)), (.int (0 : Int32))])) (fun X t q => XS.iconst X.here C.hx rfl (hb C.hby at_118) q) ?_
    refine Wl.st (g' := (mkF m 122 #[.val (.int i0), .val (.int (2 : Int32)), .val (.ref s_COMMITTED), .val (.int (0 : Int32)), .val (.int (0 : Int32)), .val (.int (1 : Int32))] [])) (fun X t q => XS.icmpNo X.here C.hx rfl (hb C.hby at_119) rfl (XT.ii_ne_f (by decide)) q) ?_
    refine Wl.st (g' := (mkF m 123 #[.val (.int i0), .val (.int (2 : Int32)), .val (.ref s_COMMITTED), .val (.int (0 : Int32)), .val (.int (0 : Int32)), .val (.int (1 : Int32))] [(.int (1 : Int32))])) (fun X t q => XS.iconst X.here C.hx rfl (hb C.hby at_122) q) ?_
    refine Wl.st (g' := (mkF m 127 #[.val (.int i0), .val (.int (2 : Int32)), .val (.ref s_COMMITTED), .val (.int (0 : Int32)), .val (.int (0 : Int32)), .val (.int (1 : Int32))] [(.int (1 : Int32))])) (fun X t q => XS.goto X.here C.hx rfl (pc0 := 123) (pc' := 127) rfl (hb C.hby at_123) (by decide) (by decide) q) ?_
    exact Wl.retV C (t := .boolean) rfl rfl (Or.inl ⟨rfl, by simp, _, rfl⟩) at_127 (by decide) (by decide) rfl
  · skip
    show Wl p l e _ s m _ below meth c n0 _ none h0 0 0 (mkF m 8 #[.val (.int i0), .val (.int (3 : Int32)), .unset, .unset, .unset, .unset] [])
    refine Wl.st (g' := (mkF m 9 #[.val (.int i0), .val (.int (3 : Int32)), .unset, .unset, .unset, .unset] [(.int (3 : Int32))])) (fun X t q => XS.iloadN X.here C.hx rfl (hb C.hby at_8) rfl q) ?_
    refine Wl.callS C (z := (⟨"com/example/escrow/escrow/TransactionStateIsEndedPinLaw", "pick", "(I)Lcom/example/escrow/escrow/TransactionState;"⟩ : MethodName)) (hw _ (List.mem_of_getElem? (i := 1) rfl)) (hw _ (List.mem_of_getElem? (i := 2) rfl)) (hw _ (List.mem_of_getElem? (i := 3) rfl)) (hw _ (List.mem_of_getElem? (i := 4) rfl)) (by decide) ((own_m1_22 l Z a0 hw n0 h0 s_CREATED s_PENDING s_COMMITTED s_FINISHED s_TERMINATING s_ROLLED_BACK EN ).toL none) (w := 0) (by decide) (by decide) pd_0 rfl (rest := []) rfl rfl (Nat.le_of_eq rfl) (by decide) (by decide) at_9 ?_
    rintro _ _ _ ⟨⟨rfl, rfl⟩, rfl⟩
    show Wl p l e _ s m _ below meth c n0 _ none h0 0 0 (mkF m 12 #[.val (.int i0), .val (.int (3 : Int32)), .unset, .unset, .unset, .unset] [(.ref s_FINISHED)])
    refine Wl.st (g' := (mkF m 13 #[.val (.int i0), .val (.int (3 : Int32)), .val (.ref s_FINISHED), .unset, .unset, .unset] [])) (fun X t q => XS.astoreN X.here C.hx rfl (hb C.hby at_12) rfl rfl (l' := #[.val (.int i0), .val (.int (3 : Int32)), .val (.ref s_FINISHED), .unset, .unset, .unset]) rfl q) ?_
    refine Wl.st (g' := (mkF m 14 #[.val (.int i0), .val (.int (3 : Int32)), .val (.ref s_FINISHED), .unset, .unset, .unset] [(.ref s_FINISHED)])) (fun X t q => XS.aloadN X.here C.hx rfl (hb C.hby at_13) rfl rfl q) ?_
    refine Wl.callV C (x := (⟨"com/example/escrow/escrow/TransactionState", "isEnded", "()Z"⟩ : MethodName)) (z := (⟨"com/example/escrow/escrow/TransactionState", "isEnded", "()Z"⟩ : MethodName)) (K := "com/example/escrow/escrow/TransactionState") (hw _ (List.mem_of_getElem? (i := 8) rfl)) (hw _ (List.mem_of_getElem? (i := 9) rfl)) (hw _ (List.mem_of_getElem? (i := 11) rfl)) (hw _ (List.mem_of_getElem? (i := 10) rfl)) (hw _ (List.mem_of_getElem? (i := 6) rfl)) (hw _ (List.mem_of_getElem? (i := 12) rfl)) (by decide) (fun s' hZ' => notFace_of_selects (args := #[]) (mvT hZ' (hw _ (List.mem_of_getElem? (i := 11) rfl)))) (en_E_FINISHED EN) ((own_m2_23 l Z a0 hw n0 h0 s_CREATED s_PENDING s_COMMITTED s_FINISHED s_TERMINATING s_ROLLED_BACK EN ).toL none) (w := 0) (by decide) (by decide) pd_1 rfl (rest := []) rfl rfl (Nat.le_of_eq rfl) (by decide) (by decide) at_14 ?_
    rintro _ _ _ ⟨⟨rfl, rfl⟩, rfl⟩
    show Wl p l e _ s m _ below meth c n0 _ none h0 0 0 (mkF m 17 #[.val (.int i0), .val (.int (3 : Int32)), .val (.ref s_FINISHED), .unset, .unset, .unset] [(.int (1 : Int32))])
    refine Wl.st (g' := (mkF m 18 #[.val (.int i0), .val (.int (3 : Int32)), .val (.ref s_FINISHED), .val (.int (1 : Int32)), .unset, .unset] [])) (fun X t q => XS.istoreN X.here C.hx rfl (hb C.hby at_17) rfl (l' := #[.val (.int i0), .val (.int (3 : Int32)), .val (.ref s_FINISHED), .val (.int (1 : Int32)), .unset, .unset]) rfl q) ?_
    refine Wl.st (g' := (mkF m 19 #[.val (.int i0), .val (.int (3 : Int32)), .val (.ref s_FINISHED), .val (.int (1 : Int32)), .unset, .unset] [(.int (3 : Int32))])) (fun X t q => XS.iloadN X.here C.hx rfl (hb C.hby at_18) rfl q) ?_
    refine Wl.st (g' := (mkF m 20 #[.val (.int i0), .val (.int (3 : Int32)), .val (.ref s_FINISHED), .val (.int (1 : Int32)), .unset, .unset] [(.int (3 : Int32)), (.int (3 : Int32))])) (fun X t q => XS.iconst X.here C.hx rfl (hb C.hby at_19) q) ?_
    refine Wl.st (g' := (mkF m 28 #[.val (.int i0), .val (.int (3 : Int32)), .val (.ref s_FINISHED), .val (.int (1 : Int32)), .unset, .unset] [])) (fun X t q => XS.icmpYes X.here C.hx rfl (pc0 := 20) (pc' := 28) rfl (hb C.hby at_20) rfl (XT.ii_eq_t (by decide)) (by decide) (by decide) q) ?_
    refine Wl.st (g' := (mkF m 29 #[.val (.int i0), .val (.int (3 : Int32)), .val (.ref s_FINISHED), .val (.int (1 : Int32)), .unset, .unset] [(.int (1 : Int32))])) (fun X t q => XS.iconst X.here C.hx rfl (hb C.hby at_28) q) ?_
    refine Wl.st (g' := (mkF m 33 #[.val (.int i0), .val (.int (3 : Int32)), .val (.ref s_FINISHED), .val (.int (1 : Int32)), .unset, .unset] [(.int (1 : Int32))])) (fun X t q => XS.goto X.here C.hx rfl (pc0 := 29) (pc' := 33) rfl (hb C.hby at_29) (by decide) (by decide) q) ?_
    refine Wl.st (g' := (mkF m 35 #[.val (.int i0), .val (.int (3 : Int32)), .val (.ref s_FINISHED), .val (.int (1 : Int32)), .val (.int (1 : Int32)), .unset] [])) (fun X t q => XS.istore X.here C.hx rfl (hb C.hby at_33) rfl (l' := #[.val (.int i0), .val (.int (3 : Int32)), .val (.ref s_FINISHED), .val (.int (1 : Int32)), .val (.int (1 : Int32)), .unset]) rfl q) ?_
    refine Wl.st (g' := (mkF m 36 #[.val (.int i0), .val (.int (3 : Int32)), .val (.ref s_FINISHED), .val (.int (1 : Int32)), .val (.int (1 : Int32)), .unset] [(.ref s_FINISHED)])) (fun X t q => XS.aloadN X.here C.hx rfl (hb C.hby at_35) rfl rfl q) ?_
    refine Wl.getS C (hw _ (List.mem_of_getElem? (i := 5) rfl)) (en_S_CREATED EN) at_36 ?_
    show Wl p l e _ s m _ below meth c n0 _ none h0 0 0 (mkF m 39 #[.val (.int i0), .val (.int (3 : Int32)), .val (.ref s_FINISHED), .val (.int (1 : Int32)), .val (.int (1 : Int32)), .unset] [(.ref s_CREATED), (.ref s_FINISHED)])
    refine Wl.callV C (x := (⟨"com/example/escrow/escrow/TransactionState", "canMoveTo", "(Lcom/example/escrow/escrow/TransactionState;)Z"⟩ : MethodName)) (z := (⟨"com/example/escrow/escrow/TransactionState", "canMoveTo", "(Lcom/example/escrow/escrow/TransactionState;)Z"⟩ : MethodName)) (K := "com/example/escrow/escrow/TransactionState") (hw _ (List.mem_of_getElem? (i := 17) rfl)) (hw _ (List.mem_of_getElem? (i := 18) rfl)) (hw _ (List.mem_of_getElem? (i := 20) rfl)) (hw _ (List.mem_of_getElem? (i := 19) rfl)) (hw _ (List.mem_of_getElem? (i := 6) rfl)) (hw _ (List.mem_of_getElem? (i := 21) rfl)) (by decide) (fun s' hZ' => notFace_of_selects (args := #[]) (mvT hZ' (hw _ (List.mem_of_getElem? (i := 20) rfl)))) (en_E_FINISHED EN) (own_c24 l Z a0 hw n0 h0 s_CREATED s_PENDING s_COMMITTED s_FINISHED s_TERMINATING s_ROLLED_BACK EN) (w := 0) (by decide) (by decide) pd_2 rfl (rest := []) rfl rfl (Nat.le_of_eq rfl) (by decide) (by decide) at_39 ?_
    rintro _ h10 _ ⟨rfl, E11, a12, rfl⟩
    show Wl p l e _ s m _ below meth c n0 _ (some ("com/example/escrow/escrow/TransactionState", 57, a12)) h10 2 20 (mkF m 42 #[.val (.int i0), .val (.int (3 : Int32)), .val (.ref s_FINISHED), .val (.int (1 : Int32)), .val (.int (1 : Int32)), .unset] [(.int (0 : Int32))])
    refine Wl.st (g' := (mkF m 45 #[.val (.int i0), .val (.int (3 : Int32)), .val (.ref s_FINISHED), .val (.int (1 : Int32)), .val (.int (1 : Int32)), .unset] [])) (fun X t q => XS.ifNo X.here C.hx rfl (hb C.hby at_42) rfl (XT.i0_ne_f (by decide)) q) ?_
    refine Wl.st (g' := (mkF m 46 #[.val (.int i0), .val (.int (3 : Int32)), .val (.ref s_FINISHED), .val (.int (1 : Int32)), .val (.int (1 : Int32)), .unset] [(.ref s_FINISHED)])) (fun X t q => XS.aloadN X.here C.hx rfl (hb C.hby at_45) rfl rfl q) ?_
    refine Wl.getS C (hw _ (List.mem_of_getElem? (i := 47) rfl)) (en_S_PENDING (EN.ext E11)) at_46 ?_
    show Wl p l e _ s m _ below meth c n0 _ (some ("com/example/escrow/escrow/TransactionState", 57, a12)) h10 2 20 (mkF m 49 #[.val (.int i0), .val (.int (3 : Int32)), .val (.ref s_FINISHED), .val (.int (1 : Int32)), .val (.int (1 : Int32)), .unset] [(.ref s_PENDING), (.ref s_FINISHED)])
    refine Wl.callV C (x := (⟨"com/example/escrow/escrow/TransactionState", "canMoveTo", "(Lcom/example/escrow/escrow/TransactionState;)Z"⟩ : MethodName)) (z := (⟨"com/example/escrow/escrow/TransactionState", "canMoveTo", "(Lcom/example/escrow/escrow/TransactionState;)Z"⟩ : MethodName)) (K := "com/example/escrow/escrow/TransactionState") (hw _ (List.mem_of_getElem? (i := 17) rfl)) (hw _ (List.mem_of_getElem? (i := 18) rfl)) (hw _ (List.mem_of_getElem? (i := 20) rfl)) (hw _ (List.mem_of_getElem? (i := 19) rfl)) (hw _ (List.mem_of_getElem? (i := 6) rfl)) (hw _ (List.mem_of_getElem? (i := 21) rfl)) (by decide) (fun s' hZ' => notFace_of_selects (args := #[]) (mvT hZ' (hw _ (List.mem_of_getElem? (i := 20) rfl)))) (en_E_FINISHED (EN.ext E11)) (own_c26 l Z a0 hw n0 h10 s_CREATED s_PENDING s_COMMITTED s_FINISHED s_TERMINATING s_ROLLED_BACK (EN.ext E11) a12) (w := 0) (by decide) (by decide) pd_2 rfl (rest := []) rfl rfl (Nat.le_of_eq rfl) (by decide) (by decide) at_49 ?_
    rintro _ _ _ ⟨rfl, rfl, rfl⟩
    show Wl p l e _ s m _ below meth c n0 _ (some ("com/example/escrow/escrow/TransactionState", 57, a12)) h10 2 20 (mkF m 52 #[.val (.int i0), .val (.int (3 : Int32)), .val (.ref s_FINISHED), .val (.int (1 : Int32)), .val (.int (1 : Int32)), .unset] [(.int (0 : Int32))])
    refine Wl.st (g' := (mkF m 55 #[.val (.int i0), .val (.int (3 : Int32)), .val (.ref s_FINISHED), .val (.int (1 : Int32)), .val (.int (1 : Int32)), .unset] [])) (fun X t q => XS.ifNo X.here C.hx rfl (hb C.hby at_52) rfl (XT.i0_ne_f (by decide)) q) ?_
    refine Wl.st (g' := (mkF m 56 #[.val (.int i0), .val (.int (3 : Int32)), .val (.ref s_FINISHED), .val (.int (1 : Int32)), .val (.int (1 : Int32)), .unset] [(.ref s_FINISHED)])) (fun X t q => XS.aloadN X.here C.hx rfl (hb C.hby at_55) rfl rfl q) ?_
    refine Wl.getS C (hw _ (List.mem_of_getElem? (i := 49) rfl)) (en_S_COMMITTED (EN.ext E11)) at_56 ?_
    show Wl p l e _ s m _ below meth c n0 _ (some ("com/example/escrow/escrow/TransactionState", 57, a12)) h10 2 20 (mkF m 59 #[.val (.int i0), .val (.int (3 : Int32)), .val (.ref s_FINISHED), .val (.int (1 : Int32)), .val (.int (1 : Int32)), .unset] [(.ref s_COMMITTED), (.ref s_FINISHED)])
    refine Wl.callV C (x := (⟨"com/example/escrow/escrow/TransactionState", "canMoveTo", "(Lcom/example/escrow/escrow/TransactionState;)Z"⟩ : MethodName)) (z := (⟨"com/example/escrow/escrow/TransactionState", "canMoveTo", "(Lcom/example/escrow/escrow/TransactionState;)Z"⟩ : MethodName)) (K := "com/example/escrow/escrow/TransactionState") (hw _ (List.mem_of_getElem? (i := 17) rfl)) (hw _ (List.mem_of_getElem? (i := 18) rfl)) (hw _ (List.mem_of_getElem? (i := 20) rfl)) (hw _ (List.mem_of_getElem? (i := 19) rfl)) (hw _ (List.mem_of_getElem? (i := 6) rfl)) (hw _ (List.mem_of_getElem? (i := 21) rfl)) (by decide) (fun s' hZ' => notFace_of_selects (args := #[]) (mvT hZ' (hw _ (List.mem_of_getElem? (i := 20) rfl)))) (en_E_FINISHED (EN.ext E11)) (own_c27 l Z a0 hw n0 h10 s_CREATED s_PENDING s_COMMITTED s_FINISHED s_TERMINATING s_ROLLED_BACK (EN.ext E11) a12) (w := 0) (by decide) (by decide) pd_2 rfl (rest := []) rfl rfl (Nat.le_of_eq rfl) (by decide) (by decide) at_59 ?_
    rintro _ _ _ ⟨rfl, rfl, rfl⟩
    show Wl p l e _ s m _ below meth c n0 _ (some ("com/example/escrow/escrow/TransactionState", 57, a12)) h10 2 20 (mkF m 62 #[.val (.int i0), .val (.int (3 : Int32)), .val (.ref s_FINISHED), .val (.int (1 : Int32)), .val (.int (1 : Int32)), .unset] [(.int (0 : Int32))])
    refine Wl.st (g' := (mkF m 65 #[.val (.int i0), .val (.int (3 : Int32)), .val (.ref s_FINISHED), .val (.int (1 : Int32)), .val (.int (1 : Int32)), .unset] [])) (fun X t q => XS.ifNo X.here C.hx rfl (hb C.hby at_62) rfl (XT.i0_ne_f (by decide)) q) ?_
    refine Wl.st (g' := (mkF m 66 #[.val (.int i0), .val (.int (3 : Int32)), .val (.ref s_FINISHED), .val (.int (1 : Int32)), .val (.int (1 : Int32)), .unset] [(.ref s_FINISHED)])) (fun X t q => XS.aloadN X.here C.hx rfl (hb C.hby at_65) rfl rfl q) ?_
    refine Wl.getS C (hw _ (List.mem_of_getElem? (i := 48) rfl)) (en_S_FINISHED (EN.ext E11)) at_66 ?_
    show Wl p l e _ s m _ below meth c n0 _ (some ("com/example/escrow/escrow/TransactionState", 57, a12)) h10 2 20 (mkF m 69 #[.val (.int i0), .val (.int (3 : Int32)), .val (.ref s_FINISHED), .val (.int (1 : Int32)), .val (.int (1 : Int32)), .unset] [(.ref s_FINISHED), (.ref s_FINISHED)])
    refine Wl.callV C (x := (⟨"com/example/escrow/escrow/TransactionState", "canMoveTo", "(Lcom/example/escrow/escrow/TransactionState;)Z"⟩ : MethodName)) (z := (⟨"com/example/escrow/escrow/TransactionState", "canMoveTo", "(Lcom/example/escrow/escrow/TransactionState;)Z"⟩ : MethodName)) (K := "com/example/escrow/escrow/TransactionState") (hw _ (List.mem_of_getElem? (i := 17) rfl)) (hw _ (List.mem_of_getElem? (i := 18) rfl)) (hw _ (List.mem_of_getElem? (i := 20) rfl)) (hw _ (List.mem_of_getElem? (i := 19) rfl)) (hw _ (List.mem_of_getElem? (i := 6) rfl)) (hw _ (List.mem_of_getElem? (i := 21) rfl)) (by decide) (fun s' hZ' => notFace_of_selects (args := #[]) (mvT hZ' (hw _ (List.mem_of_getElem? (i := 20) rfl)))) (en_E_FINISHED (EN.ext E11)) (own_c28 l Z a0 hw n0 h10 s_CREATED s_PENDING s_COMMITTED s_FINISHED s_TERMINATING s_ROLLED_BACK (EN.ext E11) a12) (w := 0) (by decide) (by decide) pd_2 rfl (rest := []) rfl rfl (Nat.le_of_eq rfl) (by decide) (by decide) at_69 ?_
    rintro _ _ _ ⟨rfl, rfl, rfl⟩
    show Wl p l e _ s m _ below meth c n0 _ (some ("com/example/escrow/escrow/TransactionState", 57, a12)) h10 2 20 (mkF m 72 #[.val (.int i0), .val (.int (3 : Int32)), .val (.ref s_FINISHED), .val (.int (1 : Int32)), .val (.int (1 : Int32)), .unset] [(.int (0 : Int32))])
    refine Wl.st (g' := (mkF m 75 #[.val (.int i0), .val (.int (3 : Int32)), .val (.ref s_FINISHED), .val (.int (1 : Int32)), .val (.int (1 : Int32)), .unset] [])) (fun X t q => XS.ifNo X.here C.hx rfl (hb C.hby at_72) rfl (XT.i0_ne_f (by decide)) q) ?_
    refine Wl.st (g' := (mkF m 76 #[.val (.int i0), .val (.int (3 : Int32)), .val (.ref s_FINISHED), .val (.int (1 : Int32)), .val (.int (1 : Int32)), .unset] [(.ref s_FINISHED)])) (fun X t q => XS.aloadN X.here C.hx rfl (hb C.hby at_75) rfl rfl q) ?_
    refine Wl.getS C (hw _ (List.mem_of_getElem? (i := 51) rfl)) (en_S_TERMINATING (EN.ext E11)) at_76 ?_
    show Wl p l e _ s m _ below meth c n0 _ (some ("com/example/escrow/escrow/TransactionState", 57, a12)) h10 2 20 (mkF m 79 #[.val (.int i0), .val (.int (3 : Int32)), .val (.ref s_FINISHED), .val (.int (1 : Int32)), .val (.int (1 : Int32)), .unset] [(.ref s_TERMINATING), (.ref s_FINISHED)])
    refine Wl.callV C (x := (⟨"com/example/escrow/escrow/TransactionState", "canMoveTo", "(Lcom/example/escrow/escrow/TransactionState;)Z"⟩ : MethodName)) (z := (⟨"com/example/escrow/escrow/TransactionState", "canMoveTo", "(Lcom/example/escrow/escrow/TransactionState;)Z"⟩ : MethodName)) (K := "com/example/escrow/escrow/TransactionState") (hw _ (List.mem_of_getElem? (i := 17) rfl)) (hw _ (List.mem_of_getElem? (i := 18) rfl)) (hw _ (List.mem_of_getElem? (i := 20) rfl)) (hw _ (List.mem_of_getElem? (i := 19) rfl)) (hw _ (List.mem_of_getElem? (i := 6) rfl)) (hw _ (List.mem_of_getElem? (i := 21) rfl)) (by decide) (fun s' hZ' => notFace_of_selects (args := #[]) (mvT hZ' (hw _ (List.mem_of_getElem? (i := 20) rfl)))) (en_E_FINISHED (EN.ext E11)) (own_c29 l Z a0 hw n0 h10 s_CREATED s_PENDING s_COMMITTED s_FINISHED s_TERMINATING s_ROLLED_BACK (EN.ext E11) a12) (w := 0) (by decide) (by decide) pd_2 rfl (rest := []) rfl rfl (Nat.le_of_eq rfl) (by decide) (by decide) at_79 ?_
    rintro _ _ _ ⟨rfl, rfl, rfl⟩
    show Wl p l e _ s m _ below meth c n0 _ (some ("com/example/escrow/escrow/TransactionState", 57, a12)) h10 2 20 (mkF m 82 #[.val (.int i0), .val (.int (3 : Int32)), .val (.ref s_FINISHED), .val (.int (1 : Int32)), .val (.int (1 : Int32)), .unset] [(.int (0 : Int32))])
    refine Wl.st (g' := (mkF m 85 #[.val (.int i0), .val (.int (3 : Int32)), .val (.ref s_FINISHED), .val (.int (1 : Int32)), .val (.int (1 : Int32)), .unset] [])) (fun X t q => XS.ifNo X.here C.hx rfl (hb C.hby at_82) rfl (XT.i0_ne_f (by decide)) q) ?_
    refine Wl.st (g' := (mkF m 86 #[.val (.int i0), .val (.int (3 : Int32)), .val (.ref s_FINISHED), .val (.int (1 : Int32)), .val (.int (1 : Int32)), .unset] [(.ref s_FINISHED)])) (fun X t q => XS.aloadN X.here C.hx rfl (hb C.hby at_85) rfl rfl q) ?_
    refine Wl.getS C (hw _ (List.mem_of_getElem? (i := 52) rfl)) (en_S_ROLLED_BACK (EN.ext E11)) at_86 ?_
    show Wl p l e _ s m _ below meth c n0 _ (some ("com/example/escrow/escrow/TransactionState", 57, a12)) h10 2 20 (mkF m 89 #[.val (.int i0), .val (.int (3 : Int32)), .val (.ref s_FINISHED), .val (.int (1 : Int32)), .val (.int (1 : Int32)), .unset] [(.ref s_ROLLED_BACK), (.ref s_FINISHED)])
    refine Wl.callV C (x := (⟨"com/example/escrow/escrow/TransactionState", "canMoveTo", "(Lcom/example/escrow/escrow/TransactionState;)Z"⟩ : MethodName)) (z := (⟨"com/example/escrow/escrow/TransactionState", "canMoveTo", "(Lcom/example/escrow/escrow/TransactionState;)Z"⟩ : MethodName)) (K := "com/example/escrow/escrow/TransactionState") (hw _ (List.mem_of_getElem? (i := 17) rfl)) (hw _ (List.mem_of_getElem? (i := 18) rfl)) (hw _ (List.mem_of_getElem? (i := 20) rfl)) (hw _ (List.mem_of_getElem? (i := 19) rfl)) (hw _ (List.mem_of_getElem? (i := 6) rfl)) (hw _ (List.mem_of_getElem? (i := 21) rfl)) (by decide) (fun s' hZ' => notFace_of_selects (args := #[]) (mvT hZ' (hw _ (List.mem_of_getElem? (i := 20) rfl)))) (en_E_FINISHED (EN.ext E11)) (own_c31 l Z a0 hw n0 h10 s_CREATED s_PENDING s_COMMITTED s_FINISHED s_TERMINATING s_ROLLED_BACK (EN.ext E11) a12) (w := 0) (by decide) (by decide) pd_2 rfl (rest := []) rfl rfl (Nat.le_of_eq rfl) (by decide) (by decide) at_89 ?_
    rintro _ _ _ ⟨rfl, rfl, rfl⟩
    show Wl p l e _ s m _ below meth c n0 _ (some ("com/example/escrow/escrow/TransactionState", 57, a12)) h10 2 20 (mkF m 92 #[.val (.int i0), .val (.int (3 : Int32)), .val (.ref s_FINISHED), .val (.int (1 : Int32)), .val (.int (1 : Int32)), .unset] [(.int (0 : Int32))])
    refine Wl.st (g' := (mkF m 99 #[.val (.int i0), .val (.int (3 : Int32)), .val (.ref s_FINISHED), .val (.int (1 : Int32)), .val (.int (1 : Int32)), .unset] [])) (fun X t q => XS.ifYes X.here C.hx rfl (pc0 := 92) (pc' := 99) rfl (hb C.hby at_92) rfl (XT.i0_eq_t (by decide)) (by decide) (by decide) q) ?_
    refine Wl.st (g' := (mkF m 100 #[.val (.int i0), .val (.int (3 : Int32)), .val (.ref s_FINISHED), .val (.int (1 : Int32)), .val (.int (1 : Int32)), .unset] [(.int (0 : Int32))])) (fun X t q => XS.iconst X.here C.hx rfl (hb C.hby at_99) q) ?_
    refine Wl.st (g' := (mkF m 102 #[.val (.int i0), .val (.int (3 : Int32)), .val (.ref s_FINISHED), .val (.int (1 : Int32)), .val (.int (1 : Int32)), .val (.int (0 : Int32))] [])) (fun X t q => XS.istore X.here C.hx rfl (hb C.hby at_100) rfl (l' := #[.val (.int i0), .val (.int (3 : Int32)), .val (.ref s_FINISHED), .val (.int (1 : Int32)), .val (.int (1 : Int32)), .val (.int (0 : Int32))]) rfl q) ?_
    refine Wl.st (g' := (mkF m 103 #[.val (.int i0), .val (.int (3 : Int32)), .val (.ref s_FINISHED), .val (.int (1 : Int32)), .val (.int (1 : Int32)), .val (.int (0 : Int32))] [(.int (1 : Int32))])) (fun X t q => XS.iloadN X.here C.hx rfl (hb C.hby at_102) rfl q) ?_
    refine Wl.st (g' := (mkF m 105 #[.val (.int i0), .val (.int (3 : Int32)), .val (.ref s_FINISHED), .val (.int (1 : Int32)), .val (.int (1 : Int32)), .val (.int (0 : Int32))] [(.int (1 : Int32)), (.int (1 : Int32))])) (fun X t q => XS.iload X.here C.hx rfl (hb C.hby at_103) rfl q) ?_
    refine Wl.st (g' := (mkF m 108 #[.val (.int i0), .val (.int (3 : Int32)), .val (.ref s_FINISHED), .val (.int (1 : Int32)), .val (.int (1 : Int32)), .val (.int (0 : Int32))] [])) (fun X t q => XS.icmpNo X.here C.hx rfl (hb C.hby at_105) rfl (XT.ii_ne_f (by decide)) q) ?_
    refine Wl.st (g' := (mkF m 109 #[.val (.int i0), .val (.int (3 : Int32)), .val (.ref s_FINISHED), .val (.int (1 : Int32)), .val (.int (1 : Int32)), .val (.int (0 : Int32))] [(.int (1 : Int32))])) (fun X t q => XS.iloadN X.here C.hx rfl (hb C.hby at_108) rfl q) ?_
    refine Wl.st (g' := (mkF m 111 #[.val (.int i0), .val (.int (3 : Int32)), .val (.ref s_FINISHED), .val (.int (1 : Int32)), .val (.int (1 : Int32)), .val (.int (0 : Int32))] [(.int (0 : Int32)), (.int (1 : Int32))])) (fun X t q => XS.iload X.here C.hx rfl (hb C.hby at_109) rfl q) ?_
    refine Wl.st (g' := (mkF m 114 #[.val (.int i0), .val (.int (3 : Int32)), .val (.ref s_FINISHED), .val (.int (1 : Int32)), .val (.int (1 : Int32)), .val (.int (0 : Int32))] [(.int (1 : Int32))])) (fun X t q => XS.ifNo X.here C.hx rfl (hb C.hby at_111) rfl (XT.i0_ne_f (by decide)) q) ?_
    refine Wl.st (g' := (mkF m 115 #[.val (.int i0), .val (.int (3 : Int32)), .val (.ref s_FINISHED), .val (.int (1 : Int32)), .val (.int (1 : Int32)), .val (.int (0 : Int32))] [(.int (1 : Int32)), (.int (1 : Int32))])) (fun X t q => XS.iconst X.here C.hx rfl (hb C.hby at_114) q) ?_
    refine Wl.st (g' := (mkF m 119 #[.val (.int i0), .val (.int (3 : Int32)), .val (.ref s_FINISHED), .val (.int (1 : Int32)), .val (.int (1 : Int32)), .val (.int (0 : Int32))] [(.int (1 : Int32)), (.int (1 : Int32))])) (fun X t q => XS.goto X.here C.hx rfl (pc0 := 115) (pc' := 119) rfl (hb C.hby at_115) (by decide) (by decide) q) ?_
    refine Wl.st (g' := (mkF m 122 #[.val (.int i0), .val (.int (3 : Int32)), .val (.ref s_FINISHED), .val (.int (1 : Int32)), .val (.int (1 : Int32)), .val (.int (0 : Int32))] [])) (fun X t q => XS.icmpNo X.here C.hx rfl (hb C.hby at_119) rfl (XT.ii_ne_f (by decide)) q) ?_
    refine Wl.st (g' := (mkF m 123 #[.val (.int i0), .val (.int (3 : Int32)), .val (.ref s_FINISHED), .val (.int (1 : Int32)), .val (.int (1 : Int32)), .val (.int (0 : Int32))] [(.int (1 : Int32))])) (fun X t q => XS.iconst X.here C.hx rfl (hb C.hby at_122) q) ?_
    refine Wl.st (g' := (mkF m 127 #[.val (.int i0), .val (.int (3 : Int32)), .val (.ref s_FINISHED), .val (.int (1 : Int32)), .val (.int (1 : Int32)), .val (.int (0 : Int32))] [(.int (1 : Int32))])) (fun X t q => XS.goto X.here C.hx rfl (pc0 := 123) (pc' := 127) rfl (hb C.hby at_123) (by decide) (by decide) q) ?_
    exact Wl.retV C (t := .boolean) rfl rfl (Or.inl ⟨rfl, by simp, _, rfl⟩) at_127 (by decide) (by decide) rfl
  · skip
    show Wl p l e _ s m _ below meth c n0 _ none h0 0 0 (mkF m 8 #[.val (.int i0), .val (.int (4 : Int32)), .unset, .unset, .unset, .unset] [])
    refine Wl.st (g' := (mkF m 9 #[.val (.int i0), .val (.int (4 : Int32)), .unset, .unset, .unset, .unset] [(.int (4 : Int32))])) (fun X t q => XS.iloadN X.here C.hx rfl (hb C.hby at_8) rfl q) ?_
    refine Wl.callS C (z := (⟨"com/example/escrow/escrow/TransactionStateIsEndedPinLaw", "pick", "(I)Lcom/example/escrow/escrow/TransactionState;"⟩ : MethodName)) (hw _ (List.mem_of_getElem? (i := 1) rfl)) (hw _ (List.mem_of_getElem? (i := 2) rfl)) (hw _ (List.mem_of_getElem? (i := 3) rfl)) (hw _ (List.mem_of_getElem? (i := 4) rfl)) (by decide) ((own_m1_33 l Z a0 hw n0 h0 s_CREATED s_PENDING s_COMMITTED s_FINISHED s_TERMINATING s_ROLLED_BACK EN ).toL none) (w := 0) (by decide) (by decide) pd_0 rfl (rest := []) rfl rfl (Nat.le_of_eq rfl) (by decide) (by decide) at_9 ?_
    rintro _ _ _ ⟨⟨rfl, rfl⟩, rfl⟩
    show Wl p l e _ s m _ below meth c n0 _ none h0 0 0 (mkF m 12 #[.val (.int i0), .val (.int (4 : Int32)), .unset, .unset, .unset, .unset] [(.ref s_TERMINATING)])
    refine Wl.st (g' := (mkF m 13 #[.val (.int i0), .val (.int (4 : Int32)), .val (.ref s_TERMINATING), .unset, .unset, .unset] [])) (fun X t q => XS.astoreN X.here C.hx rfl (hb C.hby at_12) rfl rfl (l' := #[.val (.int i0), .val (.int (4 : Int32)), .val (.ref s_TERMINATING), .unset, .unset, .unset]) rfl q) ?_
    refine Wl.st (g' := (mkF m 14 #[.val (.int i0), .val (.int (4 : Int32)), .val (.ref s_TERMINATING), .unset, .unset, .unset] [(.ref s_TERMINATING)])) (fun X t q => XS.aloadN X.here C.hx rfl (hb C.hby at_13) rfl rfl q) ?_
    refine Wl.callV C (x := (⟨"com/example/escrow/escrow/TransactionState", "isEnded", "()Z"⟩ : MethodName)) (z := (⟨"com/example/escrow/escrow/TransactionState", "isEnded", "()Z"⟩ : MethodName)) (K := "com/example/escrow/escrow/TransactionState") (hw _ (List.mem_of_getElem? (i := 8) rfl)) (hw _ (List.mem_of_getElem? (i := 9) rfl)) (hw _ (List.mem_of_getElem? (i := 11) rfl)) (hw _ (List.mem_of_getElem? (i := 10) rfl)) (hw _ (List.mem_of_getElem? (i := 6) rfl)) (hw _ (List.mem_of_getElem? (i := 12) rfl)) (by decide) (fun s' hZ' => notFace_of_selects (args := #[]) (mvT hZ' (hw _ (List.mem_of_getElem? (i := 11) rfl)))) (en_E_TERMINATING EN) ((own_m2_34 l Z a0 hw n0 h0 s_CREATED s_PENDING s_COMMITTED s_FINISHED s_TERMINATING s_ROLLED_BACK EN ).toL none) (w := 0) (by decide) (by decide) pd_1 rfl (rest := []) rfl rfl (Nat.le_of_eq rfl) (by decide) (by decide) at_14 ?_
    rintro _ _ _ ⟨⟨rfl, rfl⟩, rfl⟩
    show Wl p l e _ s m _ below meth c n0 _ none h0 0 0 (mkF m 17 #[.val (.int i0), .val (.int (4 : Int32)), .val (.ref s_TERMINATING), .unset, .unset, .unset] [(.int (0 : Int32))])
    refine Wl.st (g' := (mkF m 18 #[.val (.int i0), .val (.int (4 : Int32)), .val (.ref s_TERMINATING), .val (.int (0 : Int32)), .unset, .unset] [])) (fun X t q => XS.istoreN X.here C.hx rfl (hb C.hby at_17) rfl (l' := #[.val (.int i0), .val (.int (4 : Int32)), .val (.ref s_TERMINATING), .val (.int (0 : Int32)), .unset, .unset]) rfl q) ?_
    refine Wl.st (g' := (mkF m 19 #[.val (.int i0), .val (.int (4 : Int32)), .val (.ref s_TERMINATING), .val (.int (0 : Int32)), .unset, .unset] [(.int (4 : Int32))])) (fun X t q => XS.iloadN X.here C.hx rfl (hb C.hby at_18) rfl q) ?_
    refine Wl.st (g' := (mkF m 20 #[.val (.int i0), .val (.int (4 : Int32)), .val (.ref s_TERMINATING), .val (.int (0 : Int32)), .unset, .unset] [(.int (3 : Int32)), (.int (4 : Int32))])) (fun X t q => XS.iconst X.here C.hx rfl (hb C.hby at_19) q) ?_
    refine Wl.st (g' := (mkF m 23 #[.val (.int i0), .val (.int (4 : Int32)), .val (.ref s_TERMINATING), .val (.int (0 : Int32)), .unset, .unset] [])) (fun X t q => XS.icmpNo X.here C.hx rfl (hb C.hby at_20) rfl (XT.ii_eq_f (by decide)) q) ?_
    refine Wl.st (g' := (mkF m 24 #[.val (.int i0), .val (.int (4 : Int32)), .val (.ref s_TERMINATING), .val (.int (0 : Int32)), .unset, .unset] [(.int (4 : Int32))])) (fun X t q => XS.iloadN X.here C.hx rfl (hb C.hby at_23) rfl q) ?_
    refine Wl.st (g' := (mkF m 25 #[.val (.int i0), .val (.int (4 : Int32)), .val (.ref s_TERMINATING), .val (.int (0 : Int32)), .unset, .unset] [(.int (5 : Int32)), (.int (4 : Int32))])) (fun X t q => XS.iconst X.here C.hx rfl (hb C.hby at_24) q) ?_
    refine Wl.st (g' := (mkF m 32 #[.val (.int i0), .val (.int (4 : Int32)), .val (.ref s_TERMINATING), .val (.int (0 : Int32)), .unset, .unset] [])) (fun X t q => XS.icmpYes X.here C.hx rfl (pc0 := 25) (pc' := 32) rfl (hb C.hby at_25) rfl (XT.ii_ne_t (by decide)) (by decide) (by decide) q) ?_
    refine Wl.st (g' := (mkF m 33 #[.val (.int i0), .val (.int (4 : Int32)), .val (.ref s_TERMINATING), .val (.int (0 : Int32)), .unset, .unset] [(.int (0 : Int32))])) (fun X t q => XS.iconst X.here C.hx rfl (hb C.hby at_32) q) ?_
    refine Wl.st (g' := (mkF m 35 #[.val (.int i0), .val (.int (4 : Int32)), .val (.ref s_TERMINATING), .val (.int (0 : Int32)), .val (.int (0 : Int32)), .unset] [])) (fun X t q => XS.istore X.here C.hx rfl (hb C.hby at_33) rfl (l' := #[.val (.int i0), .val (.int (4 : Int32)), .val (.ref s_TERMINATING), .val (.int (0 : Int32)), .val (.int (0 : Int32)), .unset]) rfl q) ?_
    refine Wl.st (g' := (mkF m 36 #[.val (.int i0), .val (.int (4 : Int32)), .val (.ref s_TERMINATING), .val (.int (0 : Int32)), .val (.int (0 : Int32)), .unset] [(.ref s_TERMINATING)])) (fun X t q => XS.aloadN X.here C.hx rfl (hb C.hby at_35) rfl rfl q) ?_
    refine Wl.getS C (hw _ (List.mem_of_getElem? (i := 5) rfl)) (en_S_CREATED EN) at_36 ?_
    show Wl p l e _ s m _ below meth c n0 _ none h0 0 0 (mkF m 39 #[.val (.int i0), .val (.int (4 : Int32)), .val (.ref s_TERMINATING), .val (.int (0 : Int32)), .val (.int (0 : Int32)), .unset] [(.ref s_CREATED), (.ref s_TERMINATING)])
    refine Wl.callV C (x := (⟨"com/example/escrow/escrow/TransactionState", "canMoveTo", "(Lcom/example/escrow/escrow/TransactionState;)Z"⟩ : MethodName)) (z := (⟨"com/example/escrow/escrow/TransactionState", "canMoveTo", "(Lcom/example/escrow/escrow/TransactionState;)Z"⟩ : MethodName)) (K := "com/example/escrow/escrow/TransactionState") (hw _ (List.mem_of_getElem? (i := 17) rfl)) (hw _ (List.mem_of_getElem? (i := 18) rfl)) (hw _ (List.mem_of_getElem? (i := 20) rfl)) (hw _ (List.mem_of_getElem? (i := 19) rfl)) (hw _ (List.mem_of_getElem? (i := 6) rfl)) (hw _ (List.mem_of_getElem? (i := 21) rfl)) (by decide) (fun s' hZ' => notFace_of_selects (args := #[]) (mvT hZ' (hw _ (List.mem_of_getElem? (i := 20) rfl)))) (en_E_TERMINATING EN) (own_c35 l Z a0 hw n0 h0 s_CREATED s_PENDING s_COMMITTED s_FINISHED s_TERMINATING s_ROLLED_BACK EN) (w := 0) (by decide) (by decide) pd_2 rfl (rest := []) rfl rfl (Nat.le_of_eq rfl) (by decide) (by decide) at_39 ?_
    rintro _ h13 _ ⟨rfl, E14, a15, rfl⟩
    show Wl p l e _ s m _ below meth c n0 _ (some ("com/example/escrow/escrow/TransactionState", 57, a15)) h13 2 20 (mkF m 42 #[.val (.int i0), .val (.int (4 : Int32)), .val (.ref s_TERMINATING), .val (.int (0 : Int32)), .val (.int (0 : Int32)), .unset] [(.int (0 : Int32))])
    refine Wl.st (g' := (mkF m 45 #[.val (.int i0), .val (.int (4 : Int32)), .val (.ref s_TERMINATING), .val (.int (0 : Int32)), .val (.int (0 : Int32)), .unset] [])) (fun X t q => XS.ifNo X.here C.hx rfl (hb C.hby at_42) rfl (XT.i0_ne_f (by decide)) q) ?_
    refine Wl.st (g' := (mkF m 46 #[.val (.int i0), .val (.int (4 : Int32)), .val (.ref s_TERMINATING), .val (.int (0 : Int32)), .val (.int (0 : Int32)), .unset] [(.ref s_TERMINATING)])) (fun X t q => XS.aloadN X.here C.hx rfl (hb C.hby at_45) rfl rfl q) ?_
    refine Wl.getS C (hw _ (List.mem_of_getElem? (i := 47) rfl)) (en_S_PENDING (EN.ext E14)) at_46 ?_
    show Wl p l e _ s m _ below meth c n0 _ (some ("com/example/escrow/escrow/TransactionState", 57, a15)) h13 2 20 (mkF m 49 #[.val (.int i0), .val (.int (4 : Int32)), .val (.ref s_TERMINATING), .val (.int (0 : Int32)), .val (.int (0 : Int32)), .unset] [(.ref s_PENDING), (.ref s_TERMINATING)])
    refine Wl.callV C (x := (⟨"com/example/escrow/escrow/TransactionState", "canMoveTo", "(Lcom/example/escrow/escrow/TransactionState;)Z"⟩ : MethodName)) (z := (⟨"com/example/escrow/escrow/TransactionState", "canMoveTo", "(Lcom/example/escrow/escrow/TransactionState;)Z"⟩ : MethodName)) (K := "com/example/escrow/escrow/TransactionState") (hw _ (List.mem_of_getElem? (i := 17) rfl)) (hw _ (List.mem_of_getElem? (i := 18) rfl)) (hw _ (List.mem_of_getElem? (i := 20) rfl)) (hw _ (List.mem_of_getElem? (i := 19) rfl)) (hw _ (List.mem_of_getElem? (i := 6) rfl)) (hw _ (List.mem_of_getElem? (i := 21) rfl)) (by decide) (fun s' hZ' => notFace_of_selects (args := #[]) (mvT hZ' (hw _ (List.mem_of_getElem? (i := 20) rfl)))) (en_E_TERMINATING (EN.ext E14)) (own_c37 l Z a0 hw n0 h13 s_CREATED s_PENDING s_COMMITTED s_FINISHED s_TERMINATING s_ROLLED_BACK (EN.ext E14) a15) (w := 0) (by decide) (by decide) pd_2 rfl (rest := []) rfl rfl (Nat.le_of_eq rfl) (by decide) (by decide) at_49 ?_
    rintro _ _ _ ⟨rfl, rfl, rfl⟩
    show Wl p l e _ s m _ below meth c n0 _ (some ("com/example/escrow/escrow/TransactionState", 57, a15)) h13 2 20 (mkF m 52 #[.val (.int i0), .val (.int (4 : Int32)), .val (.ref s_TERMINATING), .val (.int (0 : Int32)), .val (.int (0 : Int32)), .unset] [(.int (0 : Int32))])
    refine Wl.st (g' := (mkF m 55 #[.val (.int i0), .val (.int (4 : Int32)), .val (.ref s_TERMINATING), .val (.int (0 : Int32)), .val (.int (0 : Int32)), .unset] [])) (fun X t q => XS.ifNo X.here C.hx rfl (hb C.hby at_52) rfl (XT.i0_ne_f (by decide)) q) ?_
    refine Wl.st (g' := (mkF m 56 #[.val (.int i0), .val (.int (4 : Int32)), .val (.ref s_TERMINATING), .val (.int (0 : Int32)), .val (.int (0 : Int32)), .unset] [(.ref s_TERMINATING)])) (fun X t q => XS.aloadN X.here C.hx rfl (hb C.hby at_55) rfl rfl q) ?_
    refine Wl.getS C (hw _ (List.mem_of_getElem? (i := 49) rfl)) (en_S_COMMITTED (EN.ext E14)) at_56 ?_
    show Wl p l e _ s m _ below meth c n0 _ (some ("com/example/escrow/escrow/TransactionState", 57, a15)) h13 2 20 (mkF m 59 #[.val (.int i0), .val (.int (4 : Int32)), .val (.ref s_TERMINATING), .val (.int (0 : Int32)), .val (.int (0 : Int32)), .unset] [(.ref s_COMMITTED), (.ref s_TERMINATING)])
    refine Wl.callV C (x := (⟨"com/example/escrow/escrow/TransactionState", "canMoveTo", "(Lcom/example/escrow/escrow/TransactionState;)Z"⟩ : MethodName)) (z := (⟨"com/example/escrow/escrow/TransactionState", "canMoveTo", "(Lcom/example/escrow/escrow/TransactionState;)Z"⟩ : MethodName)) (K := "com/example/escrow/escrow/TransactionState") (hw _ (List.mem_of_getElem? (i := 17) rfl)) (hw _ (List.mem_of_getElem? (i := 18) rfl)) (hw _ (List.mem_of_getElem? (i := 20) rfl)) (hw _ (List.mem_of_getElem? (i := 19) rfl)) (hw _ (List.mem_of_getElem? (i := 6) rfl)) (hw _ (List.mem_of_getElem? (i := 21) rfl)) (by decide) (fun s' hZ' => notFace_of_selects (args := #[]) (mvT hZ' (hw _ (List.mem_of_getElem? (i := 20) rfl)))) (en_E_TERMINATING (EN.ext E14)) (own_c38 l Z a0 hw n0 h13 s_CREATED s_PENDING s_COMMITTED s_FINISHED s_TERMINATING s_ROLLED_BACK (EN.ext E14) a15) (w := 0) (by decide) (by decide) pd_2 rfl (rest := []) rfl rfl (Nat.le_of_eq rfl) (by decide) (by decide) at_59 ?_
    rintro _ _ _ ⟨rfl, rfl, rfl⟩
    show Wl p l e _ s m _ below meth c n0 _ (some ("com/example/escrow/escrow/TransactionState", 57, a15)) h13 2 20 (mkF m 62 #[.val (.int i0), .val (.int (4 : Int32)), .val (.ref s_TERMINATING), .val (.int (0 : Int32)), .val (.int (0 : Int32)), .unset] [(.int (0 : Int32))])
    refine Wl.st (g' := (mkF m 65 #[.val (.int i0), .val (.int (4 : Int32)), .val (.ref s_TERMINATING), .val (.int (0 : Int32)), .val (.int (0 : Int32)), .unset] [])) (fun X t q => XS.ifNo X.here C.hx rfl (hb C.hby at_62) rfl (XT.i0_ne_f (by decide)) q) ?_
    refine Wl.st (g' := (mkF m 66 #[.val (.int i0), .val (.int (4 : Int32)), .val (.ref s_TERMINATING), .val (.int (0 : Int32)), .val (.int (0 : Int32)), .unset] [(.ref s_TERMINATING)])) (fun X t q => XS.aloadN X.here C.hx rfl (hb C.hby at_65) rfl rfl q) ?_
    refine Wl.getS C (hw _ (List.mem_of_getElem? (i := 48) rfl)) (en_S_FINISHED (EN.ext E14)) at_66 ?_
    show Wl p l e _ s m _ below meth c n0 _ (some ("com/example/escrow/escrow/TransactionState", 57, a15)) h13 2 20 (mkF m 69 #[.val (.int i0), .val (.int (4 : Int32)), .val (.ref s_TERMINATING), .val (.int (0 : Int32)), .val (.int (0 : Int32)), .unset] [(.ref s_FINISHED), (.ref s_TERMINATING)])
    refine Wl.callV C (x := (⟨"com/example/escrow/escrow/TransactionState", "canMoveTo", "(Lcom/example/escrow/escrow/TransactionState;)Z"⟩ : MethodName)) (z := (⟨"com/example/escrow/escrow/TransactionState", "canMoveTo", "(Lcom/example/escrow/escrow/TransactionState;)Z"⟩ : MethodName)) (K := "com/example/escrow/escrow/TransactionState") (hw _ (List.mem_of_getElem? (i := 17) rfl)) (hw _ (List.mem_of_getElem? (i := 18) rfl)) (hw _ (List.mem_of_getElem? (i := 20) rfl)) (hw _ (List.mem_of_getElem? (i := 19) rfl)) (hw _ (List.mem_of_getElem? (i := 6) rfl)) (hw _ (List.mem_of_getElem? (i := 21) rfl)) (by decide) (fun s' hZ' => notFace_of_selects (args := #[]) (mvT hZ' (hw _ (List.mem_of_getElem? (i := 20) rfl)))) (en_E_TERMINATING (EN.ext E14)) (own_c39 l Z a0 hw n0 h13 s_CREATED s_PENDING s_COMMITTED s_FINISHED s_TERMINATING s_ROLLED_BACK (EN.ext E14) a15) (w := 0) (by decide) (by decide) pd_2 rfl (rest := []) rfl rfl (Nat.le_of_eq rfl) (by decide) (by decide) at_69 ?_
    rintro _ _ _ ⟨rfl, rfl, rfl⟩
    show Wl p l e _ s m _ below meth c n0 _ (some ("com/example/escrow/escrow/TransactionState", 57, a15)) h13 2 20 (mkF m 72 #[.val (.int i0), .val (.int (4 : Int32)), .val (.ref s_TERMINATING), .val (.int (0 : Int32)), .val (.int (0 : Int32)), .unset] [(.int (0 : Int32))])
    refine Wl.st (g' := (mkF m 75 #[.val (.int i0), .val (.int (4 : Int32)), .val (.ref s_TERMINATING), .val (.int (0 : Int32)), .val (.int (0 : Int32)), .unset] [])) (fun X t q => XS.ifNo X.here C.hx rfl (hb C.hby at_72) rfl (XT.i0_ne_f (by decide)) q) ?_
    refine Wl.st (g' := (mkF m 76 #[.val (.int i0), .val (.int (4 : Int32)), .val (.ref s_TERMINATING), .val (.int (0 : Int32)), .val (.int (0 : Int32)), .unset] [(.ref s_TERMINATING)])) (fun X t q => XS.aloadN X.here C.hx rfl (hb C.hby at_75) rfl rfl q) ?_
    refine Wl.getS C (hw _ (List.mem_of_getElem? (i := 51) rfl)) (en_S_TERMINATING (EN.ext E14)) at_76 ?_
    show Wl p l e _ s m _ below meth c n0 _ (some ("com/example/escrow/escrow/TransactionState", 57, a15)) h13 2 20 (mkF m 79 #[.val (.int i0), .val (.int (4 : Int32)), .val (.ref s_TERMINATING), .val (.int (0 : Int32)), .val (.int (0 : Int32)), .unset] [(.ref s_TERMINATING), (.ref s_TERMINATING)])
    refine Wl.callV C (x := (⟨"com/example/escrow/escrow/TransactionState", "canMoveTo", "(Lcom/example/escrow/escrow/TransactionState;)Z"⟩ : MethodName)) (z := (⟨"com/example/escrow/escrow/TransactionState", "canMoveTo", "(Lcom/example/escrow/escrow/TransactionState;)Z"⟩ : MethodName)) (K := "com/example/escrow/escrow/TransactionState") (hw _ (List.mem_of_getElem? (i := 17) rfl)) (hw _ (List.mem_of_getElem? (i := 18) rfl)) (hw _ (List.mem_of_getElem? (i := 20) rfl)) (hw _ (List.mem_of_getElem? (i := 19) rfl)) (hw _ (List.mem_of_getElem? (i := 6) rfl)) (hw _ (List.mem_of_getElem? (i := 21) rfl)) (by decide) (fun s' hZ' => notFace_of_selects (args := #[]) (mvT hZ' (hw _ (List.mem_of_getElem? (i := 20) rfl)))) (en_E_TERMINATING (EN.ext E14)) (own_c40 l Z a0 hw n0 h13 s_CREATED s_PENDING s_COMMITTED s_FINISHED s_TERMINATING s_ROLLED_BACK (EN.ext E14) a15) (w := 0) (by decide) (by decide) pd_2 rfl (rest := []) rfl rfl (Nat.le_of_eq rfl) (by decide) (by decide) at_79 ?_
    rintro _ _ _ ⟨rfl, rfl, rfl⟩
    show Wl p l e _ s m _ below meth c n0 _ (some ("com/example/escrow/escrow/TransactionState", 57, a15)) h13 2 20 (mkF m 82 #[.val (.int i0), .val (.int (4 : Int32)), .val (.ref s_TERMINATING), .val (.int (0 : Int32)), .val (.int (0 : Int32)), .unset] [(.int (0 : Int32))])
    refine Wl.st (g' := (mkF m 85 #[.val (.int i0), .val (.int (4 : Int32)), .val (.ref s_TERMINATING), .val (.int (0 : Int32)), .val (.int (0 : Int32)), .unset] [])) (fun X t q => XS.ifNo X.here C.hx rfl (hb C.hby at_82) rfl (XT.i0_ne_f (by decide)) q) ?_
    refine Wl.st (g' := (mkF m 86 #[.val (.int i0), .val (.int (4 : Int32)), .val (.ref s_TERMINATING), .val (.int (0 : Int32)), .val (.int (0 : Int32)), .unset] [(.ref s_TERMINATING)])) (fun X t q => XS.aloadN X.here C.hx rfl (hb C.hby at_85) rfl rfl q) ?_
    refine Wl.getS C (hw _ (List.mem_of_getElem? (i := 52) rfl)) (en_S_ROLLED_BACK (EN.ext E14)) at_86 ?_
    show Wl p l e _ s m _ below meth c n0 _ (some ("com/example/escrow/escrow/TransactionState", 57, a15)) h13 2 20 (mkF m 89 #[.val (.int i0), .val (.int (4 : Int32)), .val (.ref s_TERMINATING), .val (.int (0 : Int32)), .val (.int (0 : Int32)), .unset] [(.ref s_ROLLED_BACK), (.ref s_TERMINATING)])
    refine Wl.callV C (x := (⟨"com/example/escrow/escrow/TransactionState", "canMoveTo", "(Lcom/example/escrow/escrow/TransactionState;)Z"⟩ : MethodName)) (z := (⟨"com/example/escrow/escrow/TransactionState", "canMoveTo", "(Lcom/example/escrow/escrow/TransactionState;)Z"⟩ : MethodName)) (K := "com/example/escrow/escrow/TransactionState") (hw _ (List.mem_of_getElem? (i := 17) rfl)) (hw _ (List.mem_of_getElem? (i := 18) rfl)) (hw _ (List.mem_of_getElem? (i := 20) rfl)) (hw _ (List.mem_of_getElem? (i := 19) rfl)) (hw _ (List.mem_of_getElem? (i := 6) rfl)) (hw _ (List.mem_of_getElem? (i := 21) rfl)) (by decide) (fun s' hZ' => notFace_of_selects (args := #[]) (mvT hZ' (hw _ (List.mem_of_getElem? (i := 20) rfl)))) (en_E_TERMINATING (EN.ext E14)) (own_c41 l Z a0 hw n0 h13 s_CREATED s_PENDING s_COMMITTED s_FINISHED s_TERMINATING s_ROLLED_BACK (EN.ext E14) a15) (w := 0) (by decide) (by decide) pd_2 rfl (rest := []) rfl rfl (Nat.le_of_eq rfl) (by decide) (by decide) at_89 ?_
    rintro _ _ _ ⟨rfl, rfl, rfl⟩
    show Wl p l e _ s m _ below meth c n0 _ (some ("com/example/escrow/escrow/TransactionState", 57, a15)) h13 2 20 (mkF m 92 #[.val (.int i0), .val (.int (4 : Int32)), .val (.ref s_TERMINATING), .val (.int (0 : Int32)), .val (.int (0 : Int32)), .unset] [(.int (1 : Int32))])
    refine Wl.st (g' := (mkF m 95 #[.val (.int i0), .val (.int (4 : Int32)), .val (.ref s_TERMINATING), .val (.int (0 : Int32)), .val (.int (0 : Int32)), .unset] [])) (fun X t q => XS.ifNo X.here C.hx rfl (hb C.hby at_92) rfl (XT.i0_eq_f (by decide)) q) ?_
    refine Wl.st (g' := (mkF m 96 #[.val (.int i0), .val (.int (4 : Int32)), .val (.ref s_TERMINATING), .val (.int (0 : Int32)), .val (.int (0 : Int32)), .unset] [(.int (1 : Int32))])) (fun X t q => XS.iconst X.here C.hx rfl (hb C.hby at_95) q) ?_
    refine Wl.st (g' := (mkF m 100 #[.val (.int i0), .val (.int (4 : Int32)), .val (.ref s_TERMINATING), .val (.int (0 : Int32)), .val (.int (0 : Int32)), .unset] [(.int (1 : Int32))])) (fun X t q => XS.goto X.here C.hx rfl (pc0 := 96) (pc' := 100) rfl (hb C.hby at_96) (by decide) (by decide) q) ?_
    refine Wl.st (g' := (mkF m 102 #[.val (.int i0), .val (.int (4 : Int32)), .val (.ref s_TERMINATING), .val (.int (0 : Int32)), .val (.int (0 : Int32)), .val (.int (1 : Int32))] [])) (fun X t q => XS.istore X.here C.hx rfl (hb C.hby at_100) rfl (l' := #[.val (.int i0), .val (.int (4 : Int32)), .val (.ref s_TERMINATING), .val (.int (0 : Int32)), .val (.int (0 : Int32)), .val (.int (1 : Int32))]) rfl q) ?_
    refine Wl.st (g' := (mkF m 103 #[.val (.int i0), .val (.int (4 : Int32)), .val (.ref s_TERMINATING), .val (.int (0 : Int32)), .val (.int (0 : Int32)), .val (.int (1 : Int32))] [(.int (0 : Int32))])) (fun X t q => XS.iloadN X.here C.hx rfl (hb C.hby at_102) rfl q) ?_
    refine Wl.st (g' := (mkF m 105 #[.val (.int i0), .val (.int (4 : Int32)), .val (.ref s_TERMINATING), .val (.int (0 : Int32)), .val (.int (0 : Int32)), .val (.int (1 : Int32))] [(.int (0 : Int32)), (.int (0 : Int32))])) (fun X t q => XS.iload X.here C.hx rfl (hb C.hby at_103) rfl q) ?_
    refine Wl.st (g' := (mkF m 108 #[.val (.int i0), .val (.int (4 : Int32)), .val (.ref s_TERMINATING), .val (.int (0 : Int32)), .val (.int (0 : Int32)), .val (.int (1 : Int32))] [])) (fun X t q => XS.icmpNo X.here C.hx rfl (hb C.hby at_105) rfl (XT.ii_ne_f (by decide)) q) ?_
    refine Wl.st (g' := (mkF m 109 #[.val (.int i0), .val (.int (4 : Int32)), .val (.ref s_TERMINATING), .val (.int (0 : Int32)), .val (.int (0 : Int32)), .val (.int (1 : Int32))] [(.int (0 : Int32))])) (fun X t q => XS.iloadN X.here C.hx rfl (hb C.hby at_108) rfl q) ?_
    refine Wl.st (g' := (mkF m 111 #[.val (.int i0), .val (.int (4 : Int32)), .val (.ref s_TERMINATING), .val (.int (0 : Int32)), .val (.int (0 : Int32)), .val (.int (1 : Int32))] [(.int (1 : Int32)), (.int (0 : Int32))])) (fun X t q => XS.iload X.here C.hx rfl (hb C.hby at_109) rfl q) ?_
    refine Wl.st (g' := (mkF m 118 #[.val (.int i0), .val (.int (4 : Int32)), .val (.ref s_TERMINATING), .val (.int (0 : Int32)), .val (.int (0 : Int32)), .val (.int (1 : Int32))] [(.int (0 : Int32))])) (fun X t q => XS.ifYes X.here C.hx rfl (pc0 := 111) (pc' := 118) rfl (hb C.hby at_111) rfl (XT.i0_ne_t (by decide)) (by decide) (by decide) q) ?_
    refine Wl.st (g' := (mkF m 119 #[.val (.int i0), .val (.int (4 : Int32)), .val (.ref s_TERMINATING), .val (.int (0 : Int32)), .val (.int (0 : Int32)), .val (.int (1 : Int32))] [(.int (0 : Int32)), (.int (0 : Int32))])) (fun X t q => XS.iconst X.here C.hx rfl (hb C.hby at_118) q) ?_
    refine Wl.st (g' := (mkF m 122 #[.val (.int i0), .val (.int (4 : Int32)), .val (.ref s_TERMINATING), .val (.int (0 : Int32)), .val (.int (0 : Int32)), .val (.int (1 : Int32))] [])) (fun X t q => XS.icmpNo X.here C.hx rfl (hb C.hby at_119) rfl (XT.ii_ne_f (by decide)) q) ?_
    refine Wl.st (g' := (mkF m 123 #[.val (.int i0), .val (.int (4 : Int32)), .val (.ref s_TERMINATING), .val (.int (0 : Int32)), .val (.int (0 : Int32)), .val (.int (1 : Int32))] [(.int (1 : Int32))])) (fun X t q => XS.iconst X.here C.hx rfl (hb C.hby at_122) q) ?_
    refine Wl.st (g' := (mkF m 127 #[.val (.int i0), .val (.int (4 : Int32)), .val (.ref s_TERMINATING), .val (.int (0 : Int32)), .val (.int (0 : Int32)), .val (.int (1 : Int32))] [(.int (1 : Int32))])) (fun X t q => XS.goto X.here C.hx rfl (pc0 := 123) (pc' := 127) rfl (hb C.hby at_123) (by decide) (by decide) q) ?_
    exact Wl.retV C (t := .boolean) rfl rfl (Or.inl ⟨rfl, by simp, _, rfl⟩) at_127 (by decide) (by decide) rfl
  · skip
    show Wl p l e _ s m _ below meth c n0 _ none h0 0 0 (mkF m 8 #[.val (.int i0), .val (.int (5 : Int32)), .unset, .unset, .unset, .unset] [])
    refine Wl.st (g' := (mkF m 9 #[.val (.int i0), .val (.int (5 : Int32)), .unset, .unset, .unset, .unset] [(.int (5 : Int32))])) (fun X t q => XS.iloadN X.here C.hx rfl (hb C.hby at_8) rfl q) ?_
    refine Wl.callS C (z := (⟨"com/example/escrow/escrow/TransactionStateIsEndedPinLaw", "pick", "(I)Lcom/example/escrow/escrow/TransactionState;"⟩ : MethodName)) (hw _ (List.mem_of_getElem? (i := 1) rfl)) (hw _ (List.mem_of_getElem? (i := 2) rfl)) (hw _ (List.mem_of_getElem? (i := 3) rfl)) (hw _ (List.mem_of_getElem? (i := 4) rfl)) (by decide) ((own_m1_42 l Z a0 hw n0 h0 s_CREATED s_PENDING s_COMMITTED s_FINISHED s_TERMINATING s_ROLLED_BACK EN ).toL none) (w := 0) (by decide) (by decide) pd_0 rfl (rest := []) rfl rfl (Nat.le_of_eq rfl) (by decide) (by decide) at_9 ?_
    rintro _ _ _ ⟨⟨rfl, rfl⟩, rfl⟩
    show Wl p l e _ s m _ below meth c n0 _ none h0 0 0 (mkF m 12 #[.val (.int i0), .val (.int (5 : Int32)), .unset, .unset, .unset, .unset] [(.ref s_ROLLED_BACK)])
    refine Wl.st (g' := (mkF m 13 #[.val (.int i0), .val (.int (5 : Int32)), .val (.ref s_ROLLED_BACK), .unset, .unset, .unset] [])) (fun X t q => XS.astoreN X.here C.hx rfl (hb C.hby at_12) rfl rfl (l' := #[.val (.int i0), .val (.int (5 : Int32)), .val (.ref s_ROLLED_BACK), .unset, .unset, .unset]) rfl q) ?_
    refine Wl.st (g' := (mkF m 14 #[.val (.int i0), .val (.int (5 : Int32)), .val (.ref s_ROLLED_BACK), .unset, .unset, .unset] [(.ref s_ROLLED_BACK)])) (fun X t q => XS.aloadN X.here C.hx rfl (hb C.hby at_13) rfl rfl q) ?_
    refine Wl.callV C (x := (⟨"com/example/escrow/escrow/TransactionState", "isEnded", "()Z"⟩ : MethodName)) (z := (⟨"com/example/escrow/escrow/TransactionState", "isEnded", "()Z"⟩ : MethodName)) (K := "com/example/escrow/escrow/TransactionState") (hw _ (List.mem_of_getElem? (i := 8) rfl)) (hw _ (List.mem_of_getElem? (i := 9) rfl)) (hw _ (List.mem_of_getElem? (i := 11) rfl)) (hw _ (List.mem_of_getElem? (i := 10) rfl)) (hw _ (List.mem_of_getElem? (i := 6) rfl)) (hw _ (List.mem_of_getElem? (i := 12) rfl)) (by decide) (fun s' hZ' => notFace_of_selects (args := #[]) (mvT hZ' (hw _ (List.mem_of_getElem? (i := 11) rfl)))) (en_E_ROLLED_BACK EN) ((own_m2_43 l Z a0 hw n0 h0 s_CREATED s_PENDING s_COMMITTED s_FINISHED s_TERMINATING s_ROLLED_BACK EN ).toL none) (w := 0) (by decide) (by decide) pd_1 rfl (rest := []) rfl rfl (Nat.le_of_eq rfl) (by decide) (by decide) at_14 ?_
    rintro _ _ _ ⟨⟨rfl, rfl⟩, rfl⟩
    show Wl p l e _ s m _ below meth c n0 _ none h0 0 0 (mkF m 17 #[.val (.int i0), .val (.int (5 : Int32)), .val (.ref s_ROLLED_BACK), .unset, .unset, .unset] [(.int (1 : Int32))])
    refine Wl.st (g' := (mkF m 18 #[.val (.int i0), .val (.int (5 : Int32)), .val (.ref s_ROLLED_BACK), .val (.int (1 : Int32)), .unset, .unset] [])) (fun X t q => XS.istoreN X.here C.hx rfl (hb C.hby at_17) rfl (l' := #[.val (.int i0), .val (.int (5 : Int32)), .val (.ref s_ROLLED_BACK), .val (.int (1 : Int32)), .unset, .unset]) rfl q) ?_
    refine Wl.st (g' := (mkF m 19 #[.val (.int i0), .val (.int (5 : Int32)), .val (.ref s_ROLLED_BACK), .val (.int (1 : Int32)), .unset, .unset] [(.int (5 : Int32))])) (fun X t q => XS.iloadN X.here C.hx rfl (hb C.hby at_18) rfl q) ?_
    refine Wl.st (g' := (mkF m 20 #[.val (.int i0), .val (.int (5 : Int32)), .val (.ref s_ROLLED_BACK), .val (.int (1 : Int32)), .unset, .unset] [(.int (3 : Int32)), (.int (5 : Int32))])) (fun X t q => XS.iconst X.here C.hx rfl (hb C.hby at_19) q) ?_
    refine Wl.st (g' := (mkF m 23 #[.val (.int i0), .val (.int (5 : Int32)), .val (.ref s_ROLLED_BACK), .val (.int (1 : Int32)), .unset, .unset] [])) (fun X t q => XS.icmpNo X.here C.hx rfl (hb C.hby at_20) rfl (XT.ii_eq_f (by decide)) q) ?_
    refine Wl.st (g' := (mkF m 24 #[.val (.int i0), .val (.int (5 : Int32)), .val (.ref s_ROLLED_BACK), .val (.int (1 : Int32)), .unset, .unset] [(.int (5 : Int32))])) (fun X t q => XS.iloadN X.here C.hx rfl (hb C.hby at_23) rfl q) ?_
    refine Wl.st (g' := (mkF m 25 #[.val (.int i0), .val (.int (5 : Int32)), .val (.ref s_ROLLED_BACK), .val (.int (1 : Int32)), .unset, .unset] [(.int (5 : Int32)), (.int (5 : Int32))])) (fun X t q => XS.iconst X.here C.hx rfl (hb C.hby at_24) q) ?_
    refine Wl.st (g' := (mkF m 28 #[.val (.int i0), .val (.int (5 : Int32)), .val (.ref s_ROLLED_BACK), .val (.int (1 : Int32)), .unset, .unset] [])) (fun X t q => XS.icmpNo X.here C.hx rfl (hb C.hby at_25) rfl (XT.ii_ne_f (by decide)) q) ?_
    refine Wl.st (g' := (mkF m 29 #[.val (.int i0), .val (.int (5 : Int32)), .val (.ref s_ROLLED_BACK), .val (.int (1 : Int32)), .unset, .unset] [(.int (1 : Int32))])) (fun X t q => XS.iconst X.here C.hx rfl (hb C.hby at_28) q) ?_
    refine Wl.st (g' := (mkF m 33 #[.val (.int i0), .val (.int (5 : Int32)), .val (.ref s_ROLLED_BACK), .val (.int (1 : Int32)), .unset, .unset] [(.int (1 : Int32))])) (fun X t q => XS.goto X.here C.hx rfl (pc0 := 29) (pc' := 33) rfl (hb C.hby at_29) (by decide) (by decide) q) ?_
    refine Wl.st (g' := (mkF m 35 #[.val (.int i0), .val (.int (5 : Int32)), .val (.ref s_ROLLED_BACK), .val (.int (1 : Int32)), .val (.int (1 : Int32)), .unset] [])) (fun X t q => XS.istore X.here C.hx rfl (hb C.hby at_33) rfl (l' := #[.val (.int i0), .val (.int (5 : Int32)), .val (.ref s_ROLLED_BACK), .val (.int (1 : Int32)), .val (.int (1 : Int32)), .unset]) rfl q) ?_
    refine Wl.st (g' := (mkF m 36 #[.val (.int i0), .val (.int (5 : Int32)), .val (.ref s_ROLLED_BACK), .val (.int (1 : Int32)), .val (.int (1 : Int32)), .unset] [(.ref s_ROLLED_BACK)])) (fun X t q => XS.aloadN X.here C.hx rfl (hb C.hby at_35) rfl rfl q) ?_
    refine Wl.getS C (hw _ (List.mem_of_getElem? (i := 5) rfl)) (en_S_CREATED EN) at_36 ?_
    show Wl p l e _ s m _ below meth c n0 _ none h0 0 0 (mkF m 39 #[.val (.int i0), .val (.int (5 : Int32)), .val (.ref s_ROLLED_BACK), .val (.int (1 : Int32)), .val (.int (1 : Int32)), .unset] [(.ref s_CREATED), (.ref s_ROLLED_BACK)])
    refine Wl.callV C (x := (⟨"com/example/escrow/escrow/TransactionState", "canMoveTo", "(Lcom/example/escrow/escrow/TransactionState;)Z"⟩ : MethodName)) (z := (⟨"com/example/escrow/escrow/TransactionState", "canMoveTo", "(Lcom/example/escrow/escrow/TransactionState;)Z"⟩ : MethodName)) (K := "com/example/escrow/escrow/TransactionState") (hw _ (List.mem_of_getElem? (i := 17) rfl)) (hw _ (List.mem_of_getElem? (i := 18) rfl)) (hw _ (List.mem_of_getElem? (i := 20) rfl)) (hw _ (List.mem_of_getElem? (i := 19) rfl)) (hw _ (List.mem_of_getElem? (i := 6) rfl)) (hw _ (List.mem_of_getElem? (i := 21) rfl)) (by decide) (fun s' hZ' => notFace_of_selects (args := #[]) (mvT hZ' (hw _ (List.mem_of_getElem? (i := 20) rfl)))) (en_E_ROLLED_BACK EN) (own_c44 l Z a0 hw n0 h0 s_CREATED s_PENDING s_COMMITTED s_FINISHED s_TERMINATING s_ROLLED_BACK EN) (w := 0) (by decide) (by decide) pd_2 rfl (rest := []) rfl rfl (Nat.le_of_eq rfl) (by decide) (by decide) at_39 ?_
    rintro _ h16 _ ⟨rfl, E17, a18, rfl⟩
    show Wl p l e _ s m _ below meth c n0 _ (some ("com/example/escrow/escrow/TransactionState", 57, a18)) h16 2 20 (mkF m 42 #[.val (.int i0), .val (.int (5 : Int32)), .val (.ref s_ROLLED_BACK), .val (.int (1 : Int32)), .val (.int (1 : Int32)), .unset] [(.int (0 : Int32))])
    refine Wl.st (g' := (mkF m 45 #[.val (.int i0), .val (.int (5 : Int32)), .val (.ref s_ROLLED_BACK), .val (.int (1 : Int32)), .val (.int (1 : Int32)), .unset] [])) (fun X t q => XS.ifNo X.here C.hx rfl (hb C.hby at_42) rfl (XT.i0_ne_f (by decide)) q) ?_
    refine Wl.st (g' := (mkF m 46 #[.val (.int i0), .val (.int (5 : Int32)), .val (.ref s_ROLLED_BACK), .val (.int (1 : Int32)), .val (.int (1 : Int32)), .unset] [(.ref s_ROLLED_BACK)])) (fun X t q => XS.aloadN X.here C.hx rfl (hb C.hby at_45) rfl rfl q) ?_
    refine Wl.getS C (hw _ (List.mem_of_getElem? (i := 47) rfl)) (en_S_PENDING (EN.ext E17)) at_46 ?_
    show Wl p l e _ s m _ below meth c n0 _ (some ("com/example/escrow/escrow/TransactionState", 57, a18)) h16 2 20 (mkF m 49 #[.val (.int i0), .val (.int (5 : Int32)), .val (.ref s_ROLLED_BACK), .val (.int (1 : Int32)), .val (.int (1 : Int32)), .unset] [(.ref s_PENDING), (.ref s_ROLLED_BACK)])
    refine Wl.callV C (x := (⟨"com/example/escrow/escrow/TransactionState", "canMoveTo", "(Lcom/example/escrow/escrow/TransactionState;)Z"⟩ : MethodName)) (z := (⟨"com/example/escrow/escrow/TransactionState", "canMoveTo", "(Lcom/example/escrow/escrow/TransactionState;)Z"⟩ : MethodName)) (K := "com/example/escrow/escrow/TransactionState") (hw _ (List.mem_of_getElem? (i := 17) rfl)) (hw _ (List.mem_of_getElem? (i := 18) rfl)) (hw _ (List.mem_of_getElem? (i := 20) rfl)) (hw _ (List.mem_of_getElem? (i := 19) rfl)) (hw _ (List.mem_of_getElem? (i := 6) rfl)) (hw _ (List.mem_of_getElem? (i := 21) rfl)) (by decide) (fun s' hZ' => notFace_of_selects (args := #[]) (mvT hZ' (hw _ (List.mem_of_getElem? (i := 20) rfl)))) (en_E_ROLLED_BACK (EN.ext E17)) (own_c46 l Z a0 hw n0 h16 s_CREATED s_PENDING s_COMMITTED s_FINISHED s_TERMINATING s_ROLLED_BACK (EN.ext E17) a18) (w := 0) (by decide) (by decide) pd_2 rfl (rest := []) rfl rfl (Nat.le_of_eq rfl) (by decide) (by decide) at_49 ?_
    rintro _ _ _ ⟨rfl, rfl, rfl⟩
    show Wl p l e _ s m _ below meth c n0 _ (some ("com/example/escrow/escrow/TransactionState", 57, a18)) h16 2 20 (mkF m 52 #[.val (.int i0), .val (.int (5 : Int32)), .val (.ref s_ROLLED_BACK), .val (.int (1 : Int32)), .val (.int (1 : Int32)), .unset] [(.int (0 : Int32))])
    refine Wl.st (g' := (mkF m 55 #[.val (.int i0), .val (.int (5 : Int32)), .val (.ref s_ROLLED_BACK), .val (.int (1 : Int32)), .val (.int (1 : Int32)), .unset] [])) (fun X t q => XS.ifNo X.here C.hx rfl (hb C.hby at_52) rfl (XT.i0_ne_f (by decide)) q) ?_
    refine Wl.st (g' := (mkF m 56 #[.val (.int i0), .val (.int (5 : Int32)), .val (.ref s_ROLLED_BACK), .val (.int (1 : Int32)), .val (.int (1 : Int32)), .unset] [(.ref s_ROLLED_BACK)])) (fun X t q => XS.aloadN X.here C.hx rfl (hb C.hby at_55) rfl rfl q) ?_
    refine Wl.getS C (hw _ (List.mem_of_getElem? (i := 49) rfl)) (en_S_COMMITTED (EN.ext E17)) at_56 ?_
    show Wl p l e _ s m _ below meth c n0 _ (some ("com/example/escrow/escrow/TransactionState", 57, a18)) h16 2 20 (mkF m 59 #[.val (.int i0), .val (.int (5 : Int32)), .val (.ref s_ROLLED_BACK), .val (.int (1 : Int32)), .val (.int (1 : Int32)), .unset] [(.ref s_COMMITTED), (.ref s_ROLLED_BACK)])
    refine Wl.callV C (x := (⟨"com/example/escrow/escrow/TransactionState", "canMoveTo", "(Lcom/example/escrow/escrow/TransactionState;)Z"⟩ : MethodName)) (z := (⟨"com/example/escrow/escrow/TransactionState", "canMoveTo", "(Lcom/example/escrow/escrow/TransactionState;)Z"⟩ : MethodName)) (K := "com/example/escrow/escrow/TransactionState") (hw _ (List.mem_of_getElem? (i := 17) rfl)) (hw _ (List.mem_of_getElem? (i := 18) rfl)) (hw _ (List.mem_of_getElem? (i := 20) rfl)) (hw _ (List.mem_of_getElem? (i := 19) rfl)) (hw _ (List.mem_of_getElem? (i := 6) rfl)) (hw _ (List.mem_of_getElem? (i := 21) rfl)) (by decide) (fun s' hZ' => notFace_of_selects (args := #[]) (mvT hZ' (hw _ (List.mem_of_getElem? (i := 20) rfl)))) (en_E_ROLLED_BACK (EN.ext E17)) (own_c47 l Z a0 hw n0 h16 s_CREATED s_PENDING s_COMMITTED s_FINISHED s_TERMINATING s_ROLLED_BACK (EN.ext E17) a18) (w := 0) (by decide) (by decide) pd_2 rfl (rest := []) rfl rfl (Nat.le_of_eq rfl) (by decide) (by decide) at_59 ?_
    rintro _ _ _ ⟨rfl, rfl, rfl⟩
    show Wl p l e _ s m _ below meth c n0 _ (some ("com/example/escrow/escrow/TransactionState", 57, a18)) h16 2 20 (mkF m 62 #[.val (.int i0), .val (.int (5 : Int32)), .val (.ref s_ROLLED_BACK), .val (.int (1 : Int32)), .val (.int (1 : Int32)), .unset] [(.int (0 : Int32))])
    refine Wl.st (g' := (mkF m 65 #[.val (.int i0), .val (.int (5 : Int32)), .val (.ref s_ROLLED_BACK), .val (.int (1 : Int32)), .val (.int (1 : Int32)), .unset] [])) (fun X t q => XS.ifNo X.here C.hx rfl (hb C.hby at_62) rfl (XT.i0_ne_f (by decide)) q) ?_
    refine Wl.st (g' := (mkF m 66 #[.val (.int i0), .val (.int (5 : Int32)), .val (.ref s_ROLLED_BACK), .val (.int (1 : Int32)), .val (.int (1 : Int32)), .unset] [(.ref s_ROLLED_BACK)])) (fun X t q => XS.aloadN X.here C.hx rfl (hb C.hby at_65) rfl rfl q) ?_
    refine Wl.getS C (hw _ (List.mem_of_getElem? (i := 48) rfl)) (en_S_FINISHED (EN.ext E17)) at_66 ?_
    show Wl p l e _ s m _ below meth c n0 _ (some ("com/example/escrow/escrow/TransactionState", 57, a18)) h16 2 20 (mkF m 69 #[.val (.int i0), .val (.int (5 : Int32)), .val (.ref s_ROLLED_BACK), .val (.int (1 : Int32)), .val (.int (1 : Int32)), .unset] [(.ref s_FINISHED), (.ref s_ROLLED_BACK)])
    refine Wl.callV C (x := (⟨"com/example/escrow/escrow/TransactionState", "canMoveTo", "(Lcom/example/escrow/escrow/TransactionState;)Z"⟩ : MethodName)) (z := (⟨"com/example/escrow/escrow/TransactionState", "canMoveTo", "(Lcom/example/escrow/escrow/TransactionState;)Z"⟩ : MethodName)) (K := "com/example/escrow/escrow/TransactionState") (hw _ (List.mem_of_getElem? (i := 17) rfl)) (hw _ (List.mem_of_getElem? (i := 18) rfl)) (hw _ (List.mem_of_getElem? (i := 20) rfl)) (hw _ (List.mem_of_getElem? (i := 19) rfl)) (hw _ (List.mem_of_getElem? (i := 6) rfl)) (hw _ (List.mem_of_getElem? (i := 21) rfl)) (by decide) (fun s' hZ' => notFace_of_selects (args := #[]) (mvT hZ' (hw _ (List.mem_of_getElem? (i := 20) rfl)))) (en_E_ROLLED_BACK (EN.ext E17)) (own_c48 l Z a0 hw n0 h16 s_CREATED s_PENDING s_COMMITTED s_FINISHED s_TERMINATING s_ROLLED_BACK (EN.ext E17) a18) (w := 0) (by decide) (by decide) pd_2 rfl (rest := []) rfl rfl (Nat.le_of_eq rfl) (by decide) (by decide) at_69 ?_
    rintro _ _ _ ⟨rfl, rfl, rfl⟩
    show Wl p l e _ s m _ below meth c n0 _ (some ("com/example/escrow/escrow/TransactionState", 57, a18)) h16 2 20 (mkF m 72 #[.val (.int i0), .val (.int (5 : Int32)), .val (.ref s_ROLLED_BACK), .val (.int (1 : Int32)), .val (.int (1 : Int32)), .unset] [(.int (0 : Int32))])
    refine Wl.st (g' := (mkF m 75 #[.val (.int i0), .val (.int (5 : Int32)), .val (.ref s_ROLLED_BACK), .val (.int (1 : Int32)), .val (.int (1 : Int32)), .unset] [])) (fun X t q => XS.ifNo X.here C.hx rfl (hb C.hby at_72) rfl (XT.i0_ne_f (by decide)) q) ?_
    refine Wl.st (g' := (mkF m 76 #[.val (.int i0), .val (.int (5 : Int32)), .val (.ref s_ROLLED_BACK), .val (.int (1 : Int32)), .val (.int (1 : Int32)), .unset] [(.ref s_ROLLED_BACK)])) (fun X t q => XS.aloadN X.here C.hx rfl (hb C.hby at_75) rfl rfl q) ?_
    refine Wl.getS C (hw _ (List.mem_of_getElem? (i := 51) rfl)) (en_S_TERMINATING (EN.ext E17)) at_76 ?_
    show Wl p l e _ s m _ below meth c n0 _ (some ("com/example/escrow/escrow/TransactionState", 57, a18)) h16 2 20 (mkF m 79 #[.val (.int i0), .val (.int (5 : Int32)), .val (.ref s_ROLLED_BACK), .val (.int (1 : Int32)), .val (.int (1 : Int32)), .unset] [(.ref s_TERMINATING), (.ref s_ROLLED_BACK)])
    refine Wl.callV C (x := (⟨"com/example/escrow/escrow/TransactionState", "canMoveTo", "(Lcom/example/escrow/escrow/TransactionState;)Z"⟩ : MethodName)) (z := (⟨"com/example/escrow/escrow/TransactionState", "canMoveTo", "(Lcom/example/escrow/escrow/TransactionState;)Z"⟩ : MethodName)) (K := "com/example/escrow/escrow/TransactionState") (hw _ (List.mem_of_getElem? (i := 17) rfl)) (hw _ (List.mem_of_getElem? (i := 18) rfl)) (hw _ (List.mem_of_getElem? (i := 20) rfl)) (hw _ (List.mem_of_getElem? (i := 19) rfl)) (hw _ (List.mem_of_getElem? (i := 6) rfl)) (hw _ (List.mem_of_getElem? (i := 21) rfl)) (by decide) (fun s' hZ' => notFace_of_selects (args := #[]) (mvT hZ' (hw _ (List.mem_of_getElem? (i := 20) rfl)))) (en_E_ROLLED_BACK (EN.ext E17)) (own_c49 l Z a0 hw n0 h16 s_CREATED s_PENDING s_COMMITTED s_FINISHED s_TERMINATING s_ROLLED_BACK (EN.ext E17) a18) (w := 0) (by decide) (by decide) pd_2 rfl (rest := []) rfl rfl (Nat.le_of_eq rfl) (by decide) (by decide) at_79 ?_
    rintro _ _ _ ⟨rfl, rfl, rfl⟩
    show Wl p l e _ s m _ below meth c n0 _ (some ("com/example/escrow/escrow/TransactionState", 57, a18)) h16 2 20 (mkF m 82 #[.val (.int i0), .val (.int (5 : Int32)), .val (.ref s_ROLLED_BACK), .val (.int (1 : Int32)), .val (.int (1 : Int32)), .unset] [(.int (0 : Int32))])
    refine Wl.st (g' := (mkF m 85 #[.val (.int i0), .val (.int (5 : Int32)), .val (.ref s_ROLLED_BACK), .val (.int (1 : Int32)), .val (.int (1 : Int32)), .unset] [])) (fun X t q => XS.ifNo X.here C.hx rfl (hb C.hby at_82) rfl (XT.i0_ne_f (by decide)) q) ?_
    refine Wl.st (g' := (mkF m 86 #[.val (.int i0), .val (.int (5 : Int32)), .val (.ref s_ROLLED_BACK), .val (.int (1 : Int32)), .val (.int (1 : Int32)), .unset] [(.ref s_ROLLED_BACK)])) (fun X t q => XS.aloadN X.here C.hx rfl (hb C.hby at_85) rfl rfl q) ?_
    refine Wl.getS C (hw _ (List.mem_of_getElem? (i := 52) rfl)) (en_S_ROLLED_BACK (EN.ext E17)) at_86 ?_
    show Wl p l e _ s m _ below meth c n0 _ (some ("com/example/escrow/escrow/TransactionState", 57, a18)) h16 2 20 (mkF m 89 #[.val (.int i0), .val (.int (5 : Int32)), .val (.ref s_ROLLED_BACK), .val (.int (1 : Int32)), .val (.int (1 : Int32)), .unset] [(.ref s_ROLLED_BACK), (.ref s_ROLLED_BACK)])
    refine Wl.callV C (x := (⟨"com/example/escrow/escrow/TransactionState", "canMoveTo", "(Lcom/example/escrow/escrow/TransactionState;)Z"⟩ : MethodName)) (z := (⟨"com/example/escrow/escrow/TransactionState", "canMoveTo", "(Lcom/example/escrow/escrow/TransactionState;)Z"⟩ : MethodName)) (K := "com/example/escrow/escrow/TransactionState") (hw _ (List.mem_of_getElem? (i := 17) rfl)) (hw _ (List.mem_of_getElem? (i := 18) rfl)) (hw _ (List.mem_of_getElem? (i := 20) rfl)) (hw _ (List.mem_of_getElem? (i := 19) rfl)) (hw _ (List.mem_of_getElem? (i := 6) rfl)) (hw _ (List.mem_of_getElem? (i := 21) rfl)) (by decide) (fun s' hZ' => notFace_of_selects (args := #[]) (mvT hZ' (hw _ (List.mem_of_getElem? (i := 20) rfl)))) (en_E_ROLLED_BACK (EN.ext E17)) (own_c50 l Z a0 hw n0 h16 s_CREATED s_PENDING s_COMMITTED s_FINISHED s_TERMINATING s_ROLLED_BACK (EN.ext E17) a18) (w := 0) (by decide) (by decide) pd_2 rfl (rest := []) rfl rfl (Nat.le_of_eq rfl) (by decide) (by decide) at_89 ?_
    rintro _ _ _ ⟨rfl, rfl, rfl⟩
    show Wl p l e _ s m _ below meth c n0 _ (some ("com/example/escrow/escrow/TransactionState", 57, a18)) h16 2 20 (mkF m 92 #[.val (.int i0), .val (.int (5 : Int32)), .val (.ref s_ROLLED_BACK), .val (.int (1 : Int32)), .val (.int (1 : Int32)), .unset] [(.int (0 : Int32))])
    refine Wl.st (g' := (mkF m 99 #[.val (.int i0), .val (.int (5 : Int32)), .val (.ref s_ROLLED_BACK), .val (.int (1 : Int32)), .val (.int (1 : Int32)), .unset] [])) (fun X t q => XS.ifYes X.here C.hx rfl (pc0 := 92) (pc' := 99) rfl (hb C.hby at_92) rfl (XT.i0_eq_t (by decide)) (by decide) (by decide) q) ?_
    refine Wl.st (g' := (mkF m 100 #[.val (.int i0), .val (.int (5 : Int32)), .val (.ref s_ROLLED_BACK), .val (.int (1 : Int32)), .val (.int (1 : Int32)), .unset] [(.int (0 : Int32))])) (fun X t q => XS.iconst X.here C.hx rfl (hb C.hby at_99) q) ?_
    refine Wl.st (g' := (mkF m 102 #[.val (.int i0), .val (.int (5 : Int32)), .val (.ref s_ROLLED_BACK), .val (.int (1 : Int32)), .val (.int (1 : Int32)), .val (.int (0 : Int32))] [])) (fun X t q => XS.istore X.here C.hx rfl (hb C.hby at_100) rfl (l' := #[.val (.int i0), .val (.int (5 : Int32)), .val (.ref s_ROLLED_BACK), .val (.int (1 : Int32)), .val (.int (1 : Int32)), .val (.int (0 : Int32))]) rfl q) ?_
    refine Wl.st (g' := (mkF m 103 #[.val (.int i0), .val (.int (5 : Int32)), .val (.ref s_ROLLED_BACK), .val (.int (1 : Int32)), .val (.int (1 : Int32)), .val (.int (0 : Int32))] [(.int (1 : Int32))])) (fun X t q => XS.iloadN X.here C.hx rfl (hb C.hby at_102) rfl q) ?_
    refine Wl.st (g' := (mkF m 105 #[.val (.int i0), .val (.int (5 : Int32)), .val (.ref s_ROLLED_BACK), .val (.int (1 : Int32)), .val (.int (1 : Int32)), .val (.int (0 : Int32))] [(.int (1 : Int32)), (.int (1 : Int32))])) (fun X t q => XS.iload X.here C.hx rfl (hb C.hby at_103) rfl q) ?_
    refine Wl.st (g' := (mkF m 108 #[.val (.int i0), .val (.int (5 : Int32)), .val (.ref s_ROLLED_BACK), .val (.int (1 : Int32)), .val (.int (1 : Int32)), .val (.int (0 : Int32))] [])) (fun X t q => XS.icmpNo X.here C.hx rfl (hb C.hby at_105) rfl (XT.ii_ne_f (by decide)) q) ?_
    refine Wl.st (g' := (mkF m 109 #[.val (.int i0), .val (.int (5 : Int32)), .val (.ref s_ROLLED_BACK), .val (.int (1 : Int32)), .val (.int (1 : Int32)), .val (.int (0 : Int32))] [(.int (1 : Int32))])) (fun X t q => XS.iloadN X.here C.hx rfl (hb C.hby at_108) rfl q) ?_
    refine Wl.st (g' := (mkF m 111 #[.val (.int i0), .val (.int (5 : Int32)), .val (.ref s_ROLLED_BACK), .val (.int (1 : Int32)), .val (.int (1 : Int32)), .val (.int (0 : Int32))] [(.int (0 : Int32)), (.int (1 : Int32))])) (fun X t q => XS.iload X.here C.hx rfl (hb C.hby at_109) rfl q) ?_
    refine Wl.st (g' := (mkF m 114 #[.val (.int i0), .val (.int (5 : Int32)), .val (.ref s_ROLLED_BACK), .val (.int (1 : Int32)), .val (.int (1 : Int32)), .val (.int (0 : Int32))] [(.int (1 : Int32))])) (fun X t q => XS.ifNo X.here C.hx rfl (hb C.hby at_111) rfl (XT.i0_ne_f (by decide)) q) ?_
    refine Wl.st (g' := (mkF m 115 #[.val (.int i0), .val (.int (5 : Int32)), .val (.ref s_ROLLED_BACK), .val (.int (1 : Int32)), .val (.int (1 : Int32)), .val (.int (0 : Int32))] [(.int (1 : Int32)), (.int (1 : Int32))])) (fun X t q => XS.iconst X.here C.hx rfl (hb C.hby at_114) q) ?_
    refine Wl.st (g' := (mkF m 119 #[.val (.int i0), .val (.int (5 : Int32)), .val (.ref s_ROLLED_BACK), .val (.int (1 : Int32)), .val (.int (1 : Int32)), .val (.int (0 : Int32))] [(.int (1 : Int32)), (.int (1 : Int32))])) (fun X t q => XS.goto X.here C.hx rfl (pc0 := 115) (pc' := 119) rfl (hb C.hby at_115) (by decide) (by decide) q) ?_
    refine Wl.st (g' := (mkF m 122 #[.val (.int i0), .val (.int (5 : Int32)), .val (.ref s_ROLLED_BACK), .val (.int (1 : Int32)), .val (.int (1 : Int32)), .val (.int (0 : Int32))] [])) (fun X t q => XS.icmpNo X.here C.hx rfl (hb C.hby at_119) rfl (XT.ii_ne_f (by decide)) q) ?_
    refine Wl.st (g' := (mkF m 123 #[.val (.int i0), .val (.int (5 : Int32)), .val (.ref s_ROLLED_BACK), .val (.int (1 : Int32)), .val (.int (1 : Int32)), .val (.int (0 : Int32))] [(.int (1 : Int32))])) (fun X t q => XS.iconst X.here C.hx rfl (hb C.hby at_122) q) ?_
    refine Wl.st (g' := (mkF m 127 #[.val (.int i0), .val (.int (5 : Int32)), .val (.ref s_ROLLED_BACK), .val (.int (1 : Int32)), .val (.int (1 : Int32)), .val (.int (0 : Int32))] [(.int (1 : Int32))])) (fun X t q => XS.goto X.here C.hx rfl (pc0 := 123) (pc' := 127) rfl (hb C.hby at_123) (by decide) (by decide) q) ?_
    exact Wl.retV C (t := .boolean) rfl rfl (Or.inl ⟨rfl, by simp, _, rfl⟩) at_127 (by decide) (by decide) rfl
set_option maxRecDepth 65536 in
set_option maxHeartbeats 40000000 in
theorem comes_1 {Post : Tables → Env → Array Value → State → Outcome → State → Prop} (hpost : ∀ tb e args s v u, (limb_1_1.after args s (.returned v) u = true ∧ limb_1_2.after args s (.returned v) u = true ∧ True) → ReturnedEndW s (.returned v) u (Jvm.fieldLocs frame_1_writes args s ++ Jvm.arrayLocs frame_1_arrays args s ++ Jvm.staticLocs frame_1_statics s) 8 1088 → Post tb e args s (.returned v) u) :
    ArmFor flags0 classFile x code maxLocals ret World_1 tables_1 room_1 Calls_1 rest_1 Pre_1 Post := by
  intro l hfl _ _ p e ha hc hk s m args below hf hA hF happ hP
  obtain ⟨hcalls, hrest, hpre⟩ := hP
  obtain ⟨-, -, -, hnamed, -, -, -, hat⟩ := (Spec.applies_iff hf).mp happ
  obtain ⟨hg, hn⟩ := and_e (Cond.before_iff.mp (show (Jvm.Cond.and given_1 narrow_1).before args s = true from hpre))
  obtain ⟨hcount, g0⟩ := and_e hg
  obtain ⟨v0, rfl⟩ : ∃ v0 : Value, args = #[v0] := by
    have hs : args.size = 1 := by simpa [Cond.value, given_1] using hcount
    obtain ⟨L⟩ := args
    match L, hs with
    | [v0], _ => exact ⟨v0, rfl⟩
  have hw := fun d (hd : d ∈ tables_1) => atoms_spec (ws := Jvm.Cond.code x code maxLocals ret :: tables_1) hat d (List.mem_cons_of_mem _ hd)
  have hfit : Fit s := fun {y c} hc i hi => by
    obtain ⟨ha, rfl⟩ := Array.getElem?_eq_some_iff.mp hc
    have q := List.all_eq_true.mp ((Array.all_eq_true_iff_forall_mem.mp hF) _ (Array.getElem_mem ha)) i (List.mem_range.mpr hi)
    simpa [Array.getElem?_eq_getElem hi] using q
  obtain ⟨i0, f0⟩ := is_v g0
  obtain rfl : v0 = (.int i0) := Option.some.inj f0
  obtain ⟨c0, hn0⟩ := and_e hn
  obtain ⟨c1, hn1⟩ := and_e hn0
  obtain ⟨c2, hn2⟩ := and_e hn1
  obtain ⟨c3, hn3⟩ := and_e hn2
  obtain ⟨c4, hn4⟩ := and_e hn3
  obtain ⟨c5, hn5⟩ := and_e hn4
  obtain ⟨c6, hn6⟩ := and_e hn5
  obtain ⟨c7, hn7⟩ := and_e hn6
  obtain ⟨c8, hn8⟩ := and_e hn7
  obtain ⟨c9, hn9⟩ := and_e hn8
  obtain ⟨c10, hn10⟩ := and_e hn9
  have c11 := hn10
  obtain ⟨s_CREATED, ev_CREATED, S_CREATED, E_CREATED⟩ := stat_exa (hw _ (List.mem_of_getElem? (i := 6) rfl)) (hw _ (List.mem_of_getElem? (i := 7) rfl)) c0
  have O_CREATED_ordinal := fld_int ev_CREATED c2
  obtain ⟨s_PENDING, ev_PENDING, S_PENDING, E_PENDING⟩ := stat_exa (hw _ (List.mem_of_getElem? (i := 6) rfl)) (hw _ (List.mem_of_getElem? (i := 44) rfl)) c6
  have O_PENDING_ordinal := fld_int ev_PENDING c7
  obtain ⟨s_COMMITTED, ev_COMMITTED, S_COMMITTED, E_COMMITTED⟩ := stat_exa (hw _ (List.mem_of_getElem? (i := 6) rfl)) (hw _ (List.mem_of_getElem? (i := 50) rfl)) c10
  have O_COMMITTED_ordinal := fld_int ev_COMMITTED c11
  obtain ⟨s_FINISHED, ev_FINISHED, S_FINISHED, E_FINISHED⟩ := stat_exa (hw _ (List.mem_of_getElem? (i := 6) rfl)) (hw _ (List.mem_of_getElem? (i := 14) rfl)) c1
  have O_FINISHED_ordinal := fld_int ev_FINISHED c3
  obtain ⟨s_TERMINATING, ev_TERMINATING, S_TERMINATING, E_TERMINATING⟩ := stat_exa (hw _ (List.mem_of_getElem? (i := 6) rfl)) (hw _ (List.mem_of_getElem? (i := 46) rfl)) c8
  have O_TERMINATING_ordinal := fld_int ev_TERMINATING c9
  obtain ⟨s_ROLLED_BACK, ev_ROLLED_BACK, S_ROLLED_BACK, E_ROLLED_BACK⟩ := stat_exa (hw _ (List.mem_of_getElem? (i := 6) rfl)) (hw _ (List.mem_of_getElem? (i := 16) rfl)) c4
  have O_ROLLED_BACK_ordinal := fld_int ev_ROLLED_BACK c5
  obtain ⟨n, o, h1, h2, h3, _, L, _, rfl, ⟨rfl, N⟩, -, hq⟩ := law_met l s _ hw s.heap.size s.heap i0 s_CREATED s_PENDING s_COMMITTED s_FINISHED s_TERMINATING s_ROLLED_BACK ⟨S_CREATED, E_CREATED, O_CREATED_ordinal, S_PENDING, E_PENDING, O_PENDING_ordinal, S_COMMITTED, E_COMMITTED, O_COMMITTED_ordinal, S_FINISHED, E_FINISHED, O_FINISHED_ordinal, S_TERMINATING, E_TERMINATING, O_TERMINATING_ordinal, S_ROLLED_BACK, E_ROLLED_BACK, O_ROLLED_BACK_ordinal⟩ tables_1 p e ha hc hk s m _ below hf ((Spec.applies_iff_loose hf).mp happ).1 ⟨rfl, State.Warmed39.refl s, rfl, trivial⟩ trivial
  refine ⟨n, _, h1, h2, h3, hpost _ _ _ _ _ _ ⟨Cond.after_iff.mpr rfl, Cond.after_iff.mpr (eq_i res_at (Term.int_eval (1)) rfl), trivial⟩ ⟨hq.1, hq.2.1, hq.2.2.1, (hq.2.2.2.sift fun y hy => Or.inr (N y hy)).mono (by decide) (by decide)⟩⟩
theorem main_1_1 : Claimed_1_1 := comes_1 fun _ _ _ _ _ _ h hF => ⟨h.1, hF⟩
theorem main_1_2 : Claimed_1_2 := comes_1 fun _ _ _ _ _ _ h hF => ⟨h.2.1, hF⟩
end Jvm.Pilot.@@N@@
namespace Jvm.Pilot.@@N@@
open Jvm Jvm.ClassFile Sem Op Lib Jvm.Free Jvm.Stand Jvm.Pilot.@@N@@.Jvm.D
/-! MADE BY PROGRAM (witnessworld.py) out of the Statement's table words and the real class files: 17 classes; the members and pool entries that the words name. The judged class is class 1, her method 2. -/
namespace start1
open Jvm.ClassFile
def u (s : String) : CpInfo := .utf8 (stringToUtf16 s)
/-- a pool by its gaps: so many unusable entries, then the entry; so many at the end -/
def gap : Nat → List CpInfo → List CpInfo
  | 0, r => r
  | n + 1, r => .unusable :: gap n r
def poolList (es : List (Nat × CpInfo)) (last : Nat) : List CpInfo := es.foldr (fun e r => gap e.1 (e.2 :: r)) (gap last [])
def pool (es : List (Nat × CpInfo)) (last : Nat) : Array CpInfo := ⟨poolList es last⟩
def fileOf (pool : Array CpInfo) (this : Nat) (attrs : Array Attribute := #[]) (ms : Array MethodInfo := #[]) (fl : Nat := 33) (sup : Nat := 0) (ifs : Array Nat := #[]) (fds : Array FieldInfo := #[]) : ClassFile where
  minorVersion := 0
  majorVersion := 65
  constantPool := pool
  accessFlags := fl
  thisClass := this
  superClass := sup
  interfaces := ifs
  fields := fds
  methods := ms
  attributes := attrs
def plain (name : String) (sup : Option ClassId) : Class where
  name := name
  kind := .ordinary
  loader := none
  accessFlags := 33
  super := sup
  interfaces := #[]
  cf := none
  fields := #[]
  methods := #[]
  instanceTypes := #[]
  staticTypes := #[]
  resolved := #[]
  callSites := []
  init := .initialized
  statics := none
  mirror := none

def pool0 : Array CpInfo := pool [(5, u "<init>"), (0, u "()V"), (1, .class_ 10), (1, u "java/lang/Object")] 113

def k0m0 : Method := { name := "<init>", desc := "()V", sig := { parameters := [], returnType := none }, accessFlags := 1, code := none }
/-- java/lang/Object -/
def k0 : Class := { plain "java/lang/Object" none with
  accessFlags := 33
  interfaces := #[]
  cf := some (fileOf pool0 8 #[] #[{ accessFlags := 1, nameIndex := 5, descriptorIndex := 6, attributes := #[] }] 33 0 #[] #[])
  fields := #[]
  methods := #[k0m0]
  instanceTypes := #[]
  staticTypes := #[]
  resolved := Array.replicate 124 none
  statics := none }

def pool1 : Array CpInfo := pool [(2, .class_ 4), (1, u "java/lang/Object"), (0, u "<init>"), (0, u "()V"), (0, .fieldref 8 9), (0, .class_ 10), (0, .nameAndType 11 12), (0, u "com/example/escrow/escrow/TransactionState"), (0, u "CREATED"), (0, u "Lcom/example/escrow/escrow/TransactionState;"), (0, .fieldref 8 14), (0, .nameAndType 15 12), (0, u "PENDING"), (0, .fieldref 8 17), (0, .nameAndType 18 12), (0, u "COMMITTED"), (0, .fieldref 8 20), (0, .nameAndType 21 12), (0, u "FINISHED"), (0, .fieldref 8 23), (0, .nameAndType 24 12), (0, u "TERMINATING"), (0, .fieldref 8 26), (0, .nameAndType 27 12), (0, u "ROLLED_BACK"), (0, .integer 2147483647), (0, .methodref 30 31), (0, .class_ 32), (0, .nameAndType 33 34), (0, u "com/example/escrow/escrow/TransactionStateIsEndedPinLaw"), (0, u "pick"), (0, u "(I)Lcom/example/escrow/escrow/TransactionState;"), (0, .methodref 8 36), (0, .nameAndType 37 38), (0, u "isEnded"), (0, u "()Z"), (0, .methodref 8 40), (0, .nameAndType 41 42), (0, u "canMoveTo"), (0, u "(Lcom/example/escrow/escrow/TransactionState;)Z"), (3, u "law"), (0, u "(I)Z")] 2

def k1m0 : Method := { name := "<init>", desc := "()V", sig := { parameters := [], returnType := none }, accessFlags := 1, code := none }
def k1c1 : Code := { maxStack := 2, maxLocals := 1, code := method_2_code, exceptionTable := #[], attributes := #[] }
def k1m1 : Method := { name := "pick", desc := "(I)Lcom/example/escrow/escrow/TransactionState;", sig := { parameters := [.int], returnType := some (.object "com/example/escrow/escrow/TransactionState") }, accessFlags := 10, code := some k1c1 }
def k1c2 : Code := { maxStack := 2, maxLocals := 6, code := code, exceptionTable := #[], attributes := #[] }
def k1m2 : Method := { name := "law", desc := "(I)Z", sig := { parameters := [.int], returnType := some .boolean }, accessFlags := 9, code := some k1c2 }
/-- com/example/escrow/escrow/TransactionStateIsEndedPinLaw -/
def k1 : Class := { plain "com/example/escrow/escrow/TransactionStateIsEndedPinLaw" (some 0) with
  accessFlags := 49
  interfaces := #[]
  cf := some (fileOf pool1 30 #[] #[{ accessFlags := 1, nameIndex := 5, descriptorIndex := 6, attributes := #[] }, { accessFlags := 10, nameIndex := 33, descriptorIndex := 34, attributes := #[] }, { accessFlags := 9, nameIndex := 46, descriptorIndex := 47, attributes := #[] }] 49 2 #[] #[])
  fields := #[]
  methods := #[k1m0, k1m1, k1m2]
  instanceTypes := #[]
  staticTypes := #[]
  resolved := Array.replicate 50 none
  statics := none }

def pool2 : Array CpInfo := pool [(1, .class_ 2), (0, u "java/lang/constant/Constable"), (0, .class_ 4), (0, u "java/lang/Object")] 6

/-- java/lang/constant/Constable -/
def k2 : Class := { plain "java/lang/constant/Constable" (some 0) with
  accessFlags := 1537
  interfaces := #[]
  cf := some (fileOf pool2 1 #[] #[] 1537 3 #[] #[])
  fields := #[]
  methods := #[]
  instanceTypes := #[]
  staticTypes := #[]
  resolved := Array.replicate 11 none
  statics := none }

def pool3 : Array CpInfo := pool [(1, .class_ 2), (0, u "java/lang/Comparable"), (0, .class_ 4), (0, u "java/lang/Object")] 7

/-- java/lang/Comparable -/
def k3 : Class := { plain "java/lang/Comparable" (some 0) with
  accessFlags := 1537
  interfaces := #[]
  cf := some (fileOf pool3 1 #[] #[] 1537 3 #[] #[])
  fields := #[]
  methods := #[]
  instanceTypes := #[]
  staticTypes := #[]
  resolved := Array.replicate 12 none
  statics := none }

def pool4 : Array CpInfo := pool [(1, .class_ 2), (0, u "java/io/Serializable"), (0, .class_ 4), (0, u "java/lang/Object")] 2

/-- java/io/Serializable -/
def k4 : Class := { plain "java/io/Serializable" (some 0) with
  accessFlags := 1537
  interfaces := #[]
  cf := some (fileOf pool4 1 #[] #[] 1537 3 #[] #[])
  fields := #[]
  methods := #[]
  instanceTypes := #[]
  staticTypes := #[]
  resolved := Array.replicate 7 none
  statics := none }

def pool5 : Array CpInfo := pool [(2, .class_ 4), (1, u "java/lang/Enum"), (0, u "name"), (0, u "Ljava/lang/String;"), (0, .fieldref 2 8), (0, .nameAndType 9 10), (0, u "ordinal"), (0, u "I"), (1, .class_ 14), (1, u "java/lang/Object"), (4, u "hash"), (86, .class_ 108), (1, u "java/lang/Enum$EnumDesc"), (2, .class_ 112), (0, u "java/lang/constant/Constable"), (0, .class_ 114), (0, u "java/lang/Comparable"), (0, .class_ 116), (0, u "java/io/Serializable"), (9, u "()I")] 77

def k5c0 : Code := { maxStack := 1, maxLocals := 1, code := jdk_37_method_2_code, exceptionTable := #[], attributes := #[] }
def k5m0 : Method := { name := "ordinal", desc := "()I", sig := { parameters := [], returnType := some .int }, accessFlags := 17, code := some k5c0 }
/-- java/lang/Enum -/
def k5 : Class := { plain "java/lang/Enum" (some 0) with
  accessFlags := 1057
  interfaces := #[2, 3, 4]
  cf := some (fileOf pool5 2 #[.nestMembers #[106]] #[{ accessFlags := 17, nameIndex := 9, descriptorIndex := 126, attributes := #[] }] 1057 12 #[111, 113, 115] #[{ accessFlags := 18, nameIndex := 5, descriptorIndex := 6, attributes := #[] }, { accessFlags := 18, nameIndex := 9, descriptorIndex := 10, attributes := #[] }, { accessFlags := 2, nameIndex := 19, descriptorIndex := 10, attributes := #[] }])
  fields := #[{ name := "name", type := (.object "java/lang/String"), accessFlags := 18, slot := 0, constantValue := 0 }, { name := "ordinal", type := .int, accessFlags := 18, slot := 1, constantValue := 0 }, { name := "hash", type := .int, accessFlags := 2, slot := 2, constantValue := 0 }]
  methods := #[k5m0]
  instanceTypes := #[(.object "java/lang/String"), .int, .int]
  staticTypes := #[]
  resolved := Array.replicate 204 none
  statics := none }

def pool6 : Array CpInfo := pool [(2, .class_ 4), (1, u "com/example/escrow/escrow/WireNamed"), (18, .class_ 24), (0, u "java/lang/Object")] 26

/-- com/example/escrow/escrow/WireNamed -/
def k6 : Class := { plain "com/example/escrow/escrow/WireNamed" (some 0) with
  accessFlags := 1536
  interfaces := #[]
  cf := some (fileOf pool6 2 #[] #[] 1536 23 #[] #[])
  fields := #[]
  methods := #[]
  instanceTypes := #[]
  staticTypes := #[]
  resolved := Array.replicate 51 none
  statics := none }

def pool7 : Array CpInfo := pool [(1, .class_ 2), (0, u "com/example/escrow/escrow/TransactionState"), (2, u "CREATED"), (0, u "Lcom/example/escrow/escrow/TransactionState;"), (0, .fieldref 1 8), (0, .nameAndType 9 6), (0, u "PENDING"), (0, .fieldref 1 11), (0, .nameAndType 12 6), (0, u "COMMITTED"), (0, .fieldref 1 14), (0, .nameAndType 15 6), (0, u "FINISHED"), (0, .fieldref 1 17), (0, .nameAndType 18 6), (0, u "TERMINATING"), (0, .fieldref 1 20), (0, .nameAndType 21 6), (0, u "ROLLED_BACK"), (2, u "$VALUES"), (0, u "[Lcom/example/escrow/escrow/TransactionState;"), (6, .class_ 34), (1, u "java/lang/Enum"), (8, u "wireName"), (0, u "Ljava/lang/String;"), (7, .class_ 54), (1, u "com/example/escrow/escrow/WireNamed"), (2, .string 58), (0, u "next"), (0, .methodref 60 61), (0, .class_ 62), (0, .nameAndType 63 64), (0, u "java/util/Objects"), (0, u "requireNonNull"), (0, u "(Ljava/lang/Object;Ljava/lang/String;)Ljava/lang/Object;"), (0, .methodref 1 66), (0, .nameAndType 67 68), (0, u "ordinal"), (0, u "()I"), (36, u "isEnded"), (0, u "()Z"), (1, u "canMoveTo"), (0, u "(Lcom/example/escrow/escrow/TransactionState;)Z")] 5

def k7c0 : Code := { maxStack := 2, maxLocals := 1, code := prog_34_method_6_code, exceptionTable := #[], attributes := #[] }
def k7m0 : Method := { name := "isEnded", desc := "()Z", sig := { parameters := [], returnType := some .boolean }, accessFlags := 1, code := some k7c0 }
def k7c1 : Code := { maxStack := 4, maxLocals := 2, code := prog_34_method_7_code, exceptionTable := #[], attributes := #[] }
def k7m1 : Method := { name := "canMoveTo", desc := "(Lcom/example/escrow/escrow/TransactionState;)Z", sig := { parameters := [(.object "com/example/escrow/escrow/TransactionState")], returnType := some .boolean }, accessFlags := 1, code := some k7c1 }
/-- com/example/escrow/escrow/TransactionState -/
def k7 : Class := { plain "com/example/escrow/escrow/TransactionState" (some 5) with
  accessFlags := 16433
  interfaces := #[6]
  cf := some (fileOf pool7 1 #[] #[{ accessFlags := 1, nameIndex := 105, descriptorIndex := 106, attributes := #[] }, { accessFlags := 1, nameIndex := 108, descriptorIndex := 109, attributes := #[] }] 16433 32 #[52] #[{ accessFlags := 16409, nameIndex := 5, descriptorIndex := 6, attributes := #[] }, { accessFlags := 16409, nameIndex := 9, descriptorIndex := 6, attributes := #[] }, { accessFlags := 16409, nameIndex := 12, descriptorIndex := 6, attributes := #[] }, { accessFlags := 16409, nameIndex := 15, descriptorIndex := 6, attributes := #[] }, { accessFlags := 16409, nameIndex := 18, descriptorIndex := 6, attributes := #[] }, { accessFlags := 16409, nameIndex := 21, descriptorIndex := 6, attributes := #[] }, { accessFlags := 18, nameIndex := 43, descriptorIndex := 44, attributes := #[] }, { accessFlags := 4122, nameIndex := 24, descriptorIndex := 25, attributes := #[] }])
  fields := #[{ name := "CREATED", type := (.object "com/example/escrow/escrow/TransactionState"), accessFlags := 16409, slot := 0, constantValue := 0 }, { name := "PENDING", type := (.object "com/example/escrow/escrow/TransactionState"), accessFlags := 16409, slot := 1, constantValue := 0 }, { name := "COMMITTED", type := (.object "com/example/escrow/escrow/TransactionState"), accessFlags := 16409, slot := 2, constantValue := 0 }, { name := "FINISHED", type := (.object "com/example/escrow/escrow/TransactionState"), accessFlags := 16409, slot := 3, constantValue := 0 }, { name := "TERMINATING", type := (.object "com/example/escrow/escrow/TransactionState"), accessFlags := 16409, slot := 4, constantValue := 0 }, { name := "ROLLED_BACK", type := (.object "com/example/escrow/escrow/TransactionState"), accessFlags := 16409, slot := 5, constantValue := 0 }, { name := "wireName", type := (.object "java/lang/String"), accessFlags := 18, slot := 3, constantValue := 0 }, { name := "$VALUES", type := (.array (.object "com/example/escrow/escrow/TransactionState")), accessFlags := 4122, slot := 6, constantValue := 0 }]
  methods := #[k7m0, k7m1]
  instanceTypes := #[(.object "java/lang/String"), .int, .int, (.object "java/lang/String")]
  staticTypes := #[(.object "com/example/escrow/escrow/TransactionState"), (.object "com/example/escrow/escrow/TransactionState"), (.object "com/example/escrow/escrow/TransactionState"), (.object "com/example/escrow/escrow/TransactionState"), (.object "com/example/escrow/escrow/TransactionState"), (.object "com/example/escrow/escrow/TransactionState"), (.array (.object "com/example/escrow/escrow/TransactionState"))]
  resolved := Array.replicate 115 none
  statics := some 0 }

def pool8 : Array CpInfo := pool [(2, .class_ 4), (1, u "java/lang/CharSequence"), (42, .class_ 48), (0, u "java/lang/CharSequence$1CodePointIterator"), (10, .class_ 60), (0, u "java/lang/CharSequence$1CharIterator"), (5, .class_ 67), (0, u "java/lang/Object")] 63

/-- java/lang/CharSequence -/
def k8 : Class := { plain "java/lang/CharSequence" (some 0) with
  accessFlags := 1537
  interfaces := #[]
  cf := some (fileOf pool8 2 #[.nestMembers #[47, 59]] #[] 1537 66 #[] #[])
  fields := #[]
  methods := #[]
  instanceTypes := #[]
  staticTypes := #[]
  resolved := Array.replicate 131 none
  statics := none }

def pool9 : Array CpInfo := pool [(1, .class_ 2), (0, u "java/lang/constant/ConstantDesc"), (0, .class_ 4), (0, u "java/lang/Object")] 32

/-- java/lang/constant/ConstantDesc -/
def k9 : Class := { plain "java/lang/constant/ConstantDesc" (some 0) with
  accessFlags := 1537
  interfaces := #[]
  cf := some (fileOf pool9 1 #[] #[] 1537 3 #[] #[])
  fields := #[]
  methods := #[]
  instanceTypes := #[]
  staticTypes := #[]
  resolved := Array.replicate 37 none
  statics := none }

def pool10 : Array CpInfo := pool [(2, .class_ 4), (1, u "java/lang/Object"), (0, u "<init>"), (0, u "()V"), (3, .class_ 12), (1, u "java/lang/String"), (0, u "value"), (0, u "[B"), (2, u "coder"), (0, u "B"), (2, u "hash"), (0, u "I"), (2, u "hashIsZero"), (0, u "Z"), (13, u "COMPACT_STRINGS"), (534, .class_ 576), (0, u "java/lang/CharSequence"), (22, u "CASE_INSENSITIVE_ORDER"), (0, u "Ljava/util/Comparator;"), (500, u "serialPersistentFields"), (0, u "[Ljava/io/ObjectStreamField;"), (0, .class_ 1104), (0, u "java/lang/String$CaseInsensitiveComparator"), (1, .class_ 1107), (0, u "java/io/Serializable"), (0, .class_ 1109), (0, u "java/lang/Comparable"), (0, .class_ 1111), (0, u "java/lang/constant/Constable"), (0, .class_ 1113), (0, u "java/lang/constant/ConstantDesc"), (2, u "serialVersionUID"), (0, u "J"), (3, u "REPL"), (0, u "C"), (2, u "LATIN1"), (1, u "UTF16")] 323

def k10m0 : Method := { name := "<init>", desc := "()V", sig := { parameters := [], returnType := none }, accessFlags := 1, code := none }
/-- java/lang/String -/
def k10 : Class := { plain "java/lang/String" (some 0) with
  accessFlags := 49
  interfaces := #[4, 3, 8, 2, 9]
  cf := some (fileOf pool10 10 #[.nestMembers #[1103]] #[{ accessFlags := 1, nameIndex := 5, descriptorIndex := 6, attributes := #[] }] 49 2 #[1106, 1108, 575, 1110, 1112] #[{ accessFlags := 18, nameIndex := 13, descriptorIndex := 14, attributes := #[] }, { accessFlags := 18, nameIndex := 17, descriptorIndex := 18, attributes := #[] }, { accessFlags := 2, nameIndex := 21, descriptorIndex := 22, attributes := #[] }, { accessFlags := 2, nameIndex := 25, descriptorIndex := 26, attributes := #[] }, { accessFlags := 26, nameIndex := 1116, descriptorIndex := 1117, attributes := #[] }, { accessFlags := 24, nameIndex := 40, descriptorIndex := 26, attributes := #[] }, { accessFlags := 26, nameIndex := 1101, descriptorIndex := 1102, attributes := #[] }, { accessFlags := 26, nameIndex := 1121, descriptorIndex := 1122, attributes := #[] }, { accessFlags := 25, nameIndex := 599, descriptorIndex := 600, attributes := #[] }, { accessFlags := 24, nameIndex := 1125, descriptorIndex := 18, attributes := #[] }, { accessFlags := 24, nameIndex := 1127, descriptorIndex := 18, attributes := #[] }])
  fields := #[{ name := "value", type := (.array .byte), accessFlags := 18, slot := 0, constantValue := 0 }, { name := "coder", type := .byte, accessFlags := 18, slot := 1, constantValue := 0 }, { name := "hash", type := .int, accessFlags := 2, slot := 2, constantValue := 0 }, { name := "hashIsZero", type := .boolean, accessFlags := 2, slot := 3, constantValue := 0 }, { name := "serialVersionUID", type := .long, accessFlags := 26, slot := 0, constantValue := 0 }, { name := "COMPACT_STRINGS", type := .boolean, accessFlags := 24, slot := 1, constantValue := 0 }, { name := "serialPersistentFields", type := (.array (.object "java/io/ObjectStreamField")), accessFlags := 26, slot := 2, constantValue := 0 }, { name := "REPL", type := .char, accessFlags := 26, slot := 3, constantValue := 0 }, { name := "CASE_INSENSITIVE_ORDER", type := (.object "java/util/Comparator"), accessFlags := 25, slot := 4, constantValue := 0 }, { name := "LATIN1", type := .byte, accessFlags := 24, slot := 5, constantValue := 0 }, { name := "UTF16", type := .byte, accessFlags := 24, slot := 6, constantValue := 0 }]
  methods := #[k10m0]
  instanceTypes := #[(.array .byte), .byte, .int, .boolean]
  staticTypes := #[.long, .boolean, (.array (.object "java/io/ObjectStreamField")), .char, (.object "java/util/Comparator"), .byte, .byte]
  resolved := Array.replicate 1451 none
  statics := none }

def pool11 : Array CpInfo := pool [(2, .class_ 4), (1, u "java/lang/Object"), (0, u "<init>"), (0, u "()V"), (35, .class_ 44), (1, u "java/util/Objects"), (0, u "requireNonNull"), (48, u "(Ljava/lang/Object;Ljava/lang/String;)Ljava/lang/Object;")] 89

def k11m0 : Method := { name := "<init>", desc := "()V", sig := { parameters := [], returnType := none }, accessFlags := 2, code := none }
def k11c1 : Code := { maxStack := 3, maxLocals := 2, code := jdk_31_method_11_code, exceptionTable := #[], attributes := #[] }
def k11m1 : Method := { name := "requireNonNull", desc := "(Ljava/lang/Object;Ljava/lang/String;)Ljava/lang/Object;", sig := { parameters := [(.object "java/lang/Object"), (.object "java/lang/String")], returnType := some (.object "java/lang/Object") }, accessFlags := 9, code := some k11c1 }
/-- java/util/Objects -/
def k11 : Class := { plain "java/util/Objects" (some 0) with
  accessFlags := 49
  interfaces := #[]
  cf := some (fileOf pool11 42 #[] #[{ accessFlags := 2, nameIndex := 5, descriptorIndex := 6, attributes := #[] }, { accessFlags := 9, nameIndex := 45, descriptorIndex := 94, attributes := #[] }] 49 2 #[] #[])
  fields := #[]
  methods := #[k11m0, k11m1]
  instanceTypes := #[]
  staticTypes := #[]
  resolved := Array.replicate 184 none
  statics := none }

def pool12 : Array CpInfo := pool [(1, u "java/lang/Cloneable"), (0, .class_ 1), (0, u "java/lang/Object"), (0, .class_ 3)] 3

/-- java/lang/Cloneable -/
def k12 : Class := { plain "java/lang/Cloneable" (some 0) with
  accessFlags := 1537
  interfaces := #[]
  cf := some (fileOf pool12 2 #[] #[] 1537 4 #[] #[])
  fields := #[]
  methods := #[]
  instanceTypes := #[]
  staticTypes := #[]
  resolved := Array.replicate 8 none
  statics := none }

/-- the primitive byte -/
def k13 : Class := { plain "byte" none with kind := .primitive 'B', accessFlags := 0x411 }
/-- [B -/
def k14 : Class := { plain "[B" (some 0) with kind := .array 13 .byte, interfaces := #[12, 4], accessFlags := 1041 }

/-- the primitive int -/
def k15 : Class := { plain "int" none with kind := .primitive 'I', accessFlags := 0x411 }
/-- [I -/
def k16 : Class := { plain "[I" (some 0) with kind := .array 15 .int, interfaces := #[12, 4], accessFlags := 1041 }

def heap : Heap := #[{ cls := 7, slots := #[.ref 1, .ref 2, .ref 3, .ref 4, .ref 5, .ref 6, .null], vm := .statics 7 },
  { cls := 7, slots := #[.null, .int 0, .int 0, .null], vm := .none },
  { cls := 7, slots := #[.null, .int 1, .int 0, .null], vm := .none },
  { cls := 7, slots := #[.null, .int 2, .int 0, .null], vm := .none },
  { cls := 7, slots := #[.null, .int 3, .int 0, .null], vm := .none },
  { cls := 7, slots := #[.null, .int 4, .int 0, .null], vm := .none },
  { cls := 7, slots := #[.null, .int 5, .int 0, .null], vm := .none }]
def classes : Array Class := #[k0, k1, k2, k3, k4, k5, k6, k7, k8, k9, k10, k11, k12, k13, k14, k15, k16]
def interned : List (Array UInt16 × Addr) := []
def slotsUsed : Nat := 31
def theMethod : MethodId := ⟨1, 2⟩
def args0 : Array Value := #[.int 5]
def aboutOver (below : List Frame) : State where
  vm := { classes := classes, interned := interned.toArray }
  heap := heap
  slotsUsed := slotsUsed
  threads := #[{ frames := .invoking theMethod args0 :: below }]
def below0 : List Frame := [.native { method := ⟨0, 0⟩, args := #[] }]
def about1 : State := aboutOver below0
def p0 : Program := .bare "" "" ""
def e0 : Env := launch0.env 0 0 0
theorem w_frames : about1.frames = Frame.invoking theMethod args0 :: below0 := rfl
set_option maxRecDepth 65536 in
theorem w_args : argsFit about1.vm theMethod args0 = true := by decide +kernel
set_option maxRecDepth 65536 in
theorem w_heap : heapFits about1 = true := by decide +kernel
set_option maxRecDepth 65536 in
theorem w_runnable : about1.curStatus? = some .runnable := by decide +kernel
set_option maxRecDepth 65536 in
theorem w_alone : about1.alone = true := by decide +kernel
set_option maxRecDepth 65536 in
theorem w_named : about1.methodNamed? x = some theMethod := by decide +kernel
set_option maxRecDepth 65536 in
theorem w_hears : about1.hears theMethod below0 = true := by decide +kernel
set_option maxRecDepth 65536 in
theorem w_ripe : about1.ripe theMethod args0 below0 = true := by decide +kernel
theorem w_running : about1.status = .running := rfl
set_option maxRecDepth 65536 in
theorem w_room : about1.hasRoom e0.platform room_1 = true :=
  launch0.hasRoom_least _ room_1 (by decide +kernel) (by decide +kernel) (by decide +kernel) (by decide +kernel) (by decide +kernel) (by decide +kernel)
theorem allAtoms_all (ts : List Jvm.Cond) (a : Array Jvm.Value) (st : Jvm.State) : (allAtoms ts).before a st = ts.all (fun c => c.before a st) := by
  induction ts with
  | nil => rfl
  | cons c t ih =>
    show (Jvm.Cond.and c (allAtoms t)).before a st = _
    rw [Jvm.Cond.before_and, ih, List.all_cons]
def words1 : List Jvm.Cond := Jvm.Cond.code x code maxLocals ret :: tables_1
/-- a 'code' word, met by the world's own term for the bytes: nothing is compared byte by byte -/
theorem code_word {y : MethodName} {bytes : ByteArray} {mx : Nat} {rt : Option FieldType} {a : Array Value} {s : State} {m : MethodId} {meth : Method} {c : Code} (h1 : s.methodNamed? y = some m) (h2 : s.vm.method? m = some meth) (h3 : meth.code = some c) (h4 : c.code = bytes)
    (h5 : (c.maxLocals == mx && c.exceptionTable.isEmpty && decide (c.maxStack ≤ mostOperands) && decide (meth.sig.returnType = rt) && !meth.locks && decide (parseMethodDescriptor y.desc = some meth.sig)) = true) : (Jvm.Cond.code y bytes mx rt).before a s = true := by
  simp only [Bool.and_eq_true, beq_iff_eq, Bool.not_eq_true', decide_eq_true_eq] at h5
  obtain ⟨⟨⟨⟨⟨g1, g2⟩, g3⟩, g4⟩, g5⟩, g6⟩ := h5
  simp [Cond.before, Cond.holds, Cond.value, h1, h2, h3, h4, g1, g2, g3, g4, g5, g6]
def isCode : Jvm.Cond → Bool
  | .code _ _ _ _ => true
  | _ => false
theorem all_split {L : List Jvm.Cond} {P : Jvm.Cond → Bool} (h1 : L.all (fun c => isCode c || P c) = true) (h2 : ∀ c ∈ L.filter isCode, P c = true) : L.all P = true := by
  refine List.all_eq_true.mpr fun c hc => ?_
  have h := List.all_eq_true.mp h1 c hc
  rcases Bool.eq_false_or_eq_true (isCode c) with hi | hi
  · exact h2 c (List.mem_filter.mpr ⟨hc, hi⟩)
  · simpa [hi] using h
set_option maxRecDepth 65536 in
theorem w_c0 : (Jvm.Cond.code x code maxLocals ret).before args0 about1 = true := code_word (m := ⟨1, 2⟩) (meth := k1m2) (c := k1c2) (by decide +kernel) rfl rfl rfl (by decide +kernel)
set_option maxRecDepth 65536 in
theorem w_c1 : (Jvm.Cond.code ({ cls := "com/example/escrow/escrow/TransactionStateIsEndedPinLaw", name := "pick", desc := "(I)Lcom/example/escrow/escrow/TransactionState;" } : Jvm.MethodName) method_2_code (1 : Nat) (Option.some (Jvm.ClassFile.FieldType.object "com/example/escrow/escrow/TransactionState"))).before args0 about1 = true := code_word (m := ⟨1, 1⟩) (meth := k1m1) (c := k1c1) (by decide +kernel) rfl rfl rfl (by decide +kernel)
set_option maxRecDepth 65536 in
theorem w_c2 : (Jvm.Cond.code ({ cls := "com/example/escrow/escrow/TransactionState", name := "isEnded", desc := "()Z" } : Jvm.MethodName) prog_34_method_6_code (1 : Nat) (Option.some Jvm.ClassFile.FieldType.boolean)).before args0 about1 = true := code_word (m := ⟨7, 0⟩) (meth := k7m0) (c := k7c0) (by decide +kernel) rfl rfl rfl (by decide +kernel)
set_option maxRecDepth 65536 in
theorem w_c3 : (Jvm.Cond.code ({ cls := "com/example/escrow/escrow/TransactionState", name := "canMoveTo", desc := "(Lcom/example/escrow/escrow/TransactionState;)Z" } : Jvm.MethodName) prog_34_method_7_code (2 : Nat) (Option.some Jvm.ClassFile.FieldType.boolean)).before args0 about1 = true := code_word (m := ⟨7, 1⟩) (meth := k7m1) (c := k7c1) (by decide +kernel) rfl rfl rfl (by decide +kernel)
set_option maxRecDepth 65536 in
theorem w_c4 : (Jvm.Cond.code ({ cls := "java/util/Objects", name := "requireNonNull", desc := "(Ljava/lang/Object;Ljava/lang/String;)Ljava/lang/Object;" } : Jvm.MethodName) jdk_31_method_11_code (2 : Nat) (Option.some (Jvm.ClassFile.FieldType.object "java/lang/Object"))).before args0 about1 = true := code_word (m := ⟨11, 1⟩) (meth := k11m1) (c := k11c1) (by decide +kernel) rfl rfl rfl (by decide +kernel)
set_option maxRecDepth 65536 in
theorem w_c5 : (Jvm.Cond.code ({ cls := "java/lang/Enum", name := "ordinal", desc := "()I" } : Jvm.MethodName) jdk_37_method_2_code (1 : Nat) (Option.some Jvm.ClassFile.FieldType.int)).before args0 about1 = true := code_word (m := ⟨5, 0⟩) (meth := k5m0) (c := k5c0) (by decide +kernel) rfl rfl rfl (by decide +kernel)
def codes1 : List Jvm.Cond := [Jvm.Cond.code x code maxLocals ret, Jvm.Cond.code ({ cls := "com/example/escrow/escrow/TransactionStateIsEndedPinLaw", name := "pick", desc := "(I)Lcom/example/escrow/escrow/TransactionState;" } : Jvm.MethodName) method_2_code (1 : Nat) (Option.some (Jvm.ClassFile.FieldType.object "com/example/escrow/escrow/TransactionState")), Jvm.Cond.code ({ cls := "com/example/escrow/escrow/TransactionState", name := "isEnded", desc := "()Z" } : Jvm.MethodName) prog_34_method_6_code (1 : Nat) (Option.some Jvm.ClassFile.FieldType.boolean), Jvm.Cond.code ({ cls := "com/example/escrow/escrow/TransactionState", name := "canMoveTo", desc := "(Lcom/example/escrow/escrow/TransactionState;)Z" } : Jvm.MethodName) prog_34_method_7_code (2 : Nat) (Option.some Jvm.ClassFile.FieldType.boolean), Jvm.Cond.code ({ cls := "java/util/Objects", name := "requireNonNull", desc := "(Ljava/lang/Object;Ljava/lang/String;)Ljava/lang/Object;" } : Jvm.MethodName) jdk_31_method_11_code (2 : Nat) (Option.some (Jvm.ClassFile.FieldType.object "java/lang/Object")), Jvm.Cond.code ({ cls := "java/lang/Enum", name := "ordinal", desc := "()I" } : Jvm.MethodName) jdk_37_method_2_code (1 : Nat) (Option.some Jvm.ClassFile.FieldType.int)]
set_option maxRecDepth 65536 in
theorem codes_eq : words1.filter isCode = codes1 := rfl
theorem w_codes : ∀ c ∈ words1.filter isCode, c.before args0 about1 = true := by
  rw [codes_eq]
  intro c hc
  simp only [codes1, List.mem_cons, List.not_mem_nil, or_false] at hc
  rcases hc with rfl | rfl | rfl | rfl | rfl | rfl
  · exact w_c0
  · exact w_c1
  · exact w_c2
  · exact w_c3
  · exact w_c4
  · exact w_c5
set_option maxRecDepth 65536 in
theorem w_t1 : (words1.take 24).all (fun c => isCode c || c.before args0 about1) = true := by decide +kernel
set_option maxRecDepth 65536 in
theorem w_t2 : ((words1.drop 24).take 24).all (fun c => isCode c || c.before args0 about1) = true := by decide +kernel
set_option maxRecDepth 65536 in
theorem w_t3 : ((words1.drop 24).drop 24).all (fun c => isCode c || c.before args0 about1) = true := by decide +kernel
theorem w_tables : (allAtoms (Jvm.Cond.code x code maxLocals ret :: tables_1)).before args0 about1 = true := by
  rw [allAtoms_all]
  show words1.all (fun c => c.before args0 about1) = true
  refine all_split ?_ w_codes
  rw [← List.take_append_drop 24 words1, List.all_append, w_t1, ← List.take_append_drop 24 (words1.drop 24), List.all_append, w_t2, w_t3]
  rfl
set_option maxRecDepth 65536 in
theorem w_case : (Jvm.Cond.and given_1 narrow_1).before args0 about1 = true := by decide +kernel
theorem w_applies : (headSpec (Jvm.Cond.code x code maxLocals ret :: tables_1) room_1).applies x e0.platform about1 = true :=
  (Spec.applies_iff w_frames).mpr ⟨w_running, w_runnable, w_alone, w_named, w_hears, w_ripe, w_room, w_tables⟩
theorem atStart : AtStart classFile x code maxLocals ret World_1 tables_1 room_1 Calls_1 rest_1 Pre_1 launch0 p0 e0 about1 theMethod args0 below0 :=
  ⟨lists_1, trivial, launch0.admits_env _ _ _, launch0.least_env, fairChoices_fair.cas, fairChoices_fair.clock, w_frames, w_args, w_heap, w_applies, trivial, trivial, w_case⟩
end start1
theorem witness_1 : WitnessClaimed_1 := ⟨start1.p0, start1.e0, start1.about1, start1.theMethod, start1.args0, start1.below0, start1.atStart⟩
end Jvm.Pilot.@@N@@
