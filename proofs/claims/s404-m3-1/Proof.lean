import JvmDerived
import JvmDerived.Pilot.@@N@@Statement
import JvmDerived.Pilot.@@N@@Code
set_option linter.unusedVariables false
set_option linter.unusedSimpArgs false
namespace Jvm.Own
open Jvm Jvm.ClassFile Sem Op Lib Jvm.Free Jvm.Stand Jvm.LawKit Jvm.RoadKit
/-! MY LAYER: a goal 'Wk' over the library's Stand (from any state that stands here with the heap h, the walk comes to its end and Q holds), one rule a step; W: may the walk intern (wide frame). -/
def Bs (W : Bool) (s : State) (vm0 : Vm) (sz : Nat) : Prop := match W with
  | false => vm0 = s.vm
  | true => ∃ k0, s.Since vm0 k0 ∧ k0 ≤ sz
def En (W : Bool) (s : State) (o : Outcome) (t : State) (L : List Loc) (k n : Nat) : Prop := match W with
  | false => FrameEnd s o t L k n
  | true => ReturnedEndW s o t L k n
def Cx (Z : State) (p : Program) (s : State) (m : MethodId) (meth : Method) (c : Code) (y : MethodName) (bytes : ByteArray) (maxL : Nat) (ret : Option FieldType) : Prop :=
  p.tables.exec = Jvm.exec ∧ c.code = bytes ∧ c.maxLocals = maxL ∧ Z.Warmed39 s.vm ∧ s.vm.findClass y.cls = some m.cls ∧ meth.name = y.name ∧ meth.sig.returnType = ret ∧ meth.locks = false
def Wk (W : Bool) (p : Program) (l : Launch) (e : Env) (R : Room) (s : State) (m : MethodId) (args : Array Value) (below : List Frame) (meth : Method) (c : Code) (n0 : Nat) (Q : Option Value → Heap → Prop) (h : Heap) (k n : Nat) (g : JFrame) : Prop :=
  ∀ T L vm0, Stand p l e R (s.setVm vm0) m args below meth c T L k n → Bs W s vm0 h.size → T.heap = h → Fr n0 L →
    ∃ s₂ o, Steps p.tables e below (T.setTop g) s₂ ∧ s₂.status = .running ∧ Ended s₂ below o ∧ ∃ v L, o = .returned v ∧ (Q v s₂.heap ∧ Fr n0 L) ∧ En W s o s₂ L R.cells R.slots
def Met (W : Bool) (l : Launch) (Z : State) (n0 : Nat) (y : MethodName) (bytes : ByteArray) (maxL : Nat) (ret : Option FieldType) (rm : Room) (as : Array Value) (h : Heap) (Q : Option Value → Heap → Prop) : Prop :=
  ∀ ws, MetFree l y (head1 (Cond.code y bytes maxL ret :: ws) rm) (fun a U => a = as ∧ Z.Warmed39 U.vm ∧ U.heap = h) (fun _ _ _ _ _ => True)
    (fun _ U o U' => ∃ v L, o = .returned v ∧ (Q v U'.heap ∧ Fr n0 L) ∧ En W U o U' L rm.cells rm.slots)
theorem Bs.start (W : Bool) (s : State) (sz : Nat) : Bs W s s.vm sz := by
  cases W
  · rfl
  · exact ⟨0, (State.WarmedH.refl s).since 0, Nat.zero_le _⟩
theorem Bs.mono {W : Bool} {s : State} {vm0 : Vm} {a b : Nat} (B : Bs W s vm0 a) (q : a ≤ b) : Bs W s vm0 b := by
  cases W
  · exact B
  · obtain ⟨k0, h1, h2⟩ := B; exact ⟨k0, h1, Nat.le_trans h2 q⟩
theorem Bs.warm {W : Bool} {s : State} {vm0 : Vm} {a : Nat} (B : Bs W s vm0 a) : s.Warmed39 vm0 := by
  cases W
  · cases (B : vm0 = s.vm); exact State.Warmed39.refl s
  · obtain ⟨k0, h1, h2⟩ := B; exact h1.1
section Cxs
variable {W : Bool} {Z : State} {p : Program} {s : State} {m : MethodId} {meth : Method} {c : Code} {y : MethodName} {bytes : ByteArray} {maxL : Nat} {ret : Option FieldType}
theorem Cx.hx (C : Cx Z p s m meth c y bytes maxL ret) : p.tables.exec = Jvm.exec := C.1
theorem Cx.hby (C : Cx Z p s m meth c y bytes maxL ret) : c.code = bytes := C.2.1
theorem Cx.hml (C : Cx Z p s m meth c y bytes maxL ret) : c.maxLocals = maxL := C.2.2.1
theorem Cx.hZ (C : Cx Z p s m meth c y bytes maxL ret) : Z.Warmed39 s.vm := C.2.2.2.1
theorem Cx.hown (C : Cx Z p s m meth c y bytes maxL ret) : s.vm.findClass y.cls = some m.cls := C.2.2.2.2.1
theorem Cx.hnm (C : Cx Z p s m meth c y bytes maxL ret) : meth.name = y.name := C.2.2.2.2.2.1
theorem Cx.hret (C : Cx Z p s m meth c y bytes maxL ret) : meth.sig.returnType = ret := C.2.2.2.2.2.2.1
theorem Cx.hlk (C : Cx Z p s m meth c y bytes maxL ret) : meth.locks = false := C.2.2.2.2.2.2.2
theorem Cx.wZ (C : Cx Z p s m meth c y bytes maxL ret) {vm0 : Vm} {a : Nat} (B : Bs W s vm0 a) : Z.Warmed39 (s.setVm vm0).vm := State.Warmed39.trans (t := s) C.hZ B.warm
theorem Cx.wo (C : Cx Z p s m meth c y bytes maxL ret) {vm0 : Vm} {a : Nat} (B : Bs W s vm0 a) : (s.setVm vm0).vm.findClass y.cls = some m.cls := by
  show vm0.findClass y.cls = _
  rw [B.warm.alike.findClass]; exact C.hown
end Cxs
theorem Met.of {W : Bool} {l : Launch} {Z : State} {n0 : Nat} {y : MethodName} {bytes : ByteArray} {maxL : Nat} {ret : Option FieldType} {rm : Room} {as : Array Value} {h : Heap} {Q : Option Value → Heap → Prop}
    (hpn : plainName y.cls = true) (Ls : Array Slot) (hef : ∀ m, entryFrame m as maxL = mkF m 0 Ls [])
    (H : ∀ p e s m below meth c, Cx Z p s m meth c y bytes maxL ret → Wk W p l e rm s m as below meth c n0 Q h 0 0 (mkF m 0 Ls [])) : Met W l Z n0 y bytes maxL ret rm as h Q := by
  intro ws
  refine MetFree.of_bodySF (plainFor_of_name hpn) hisR ?_
  intro p e s m args below meth c s₁ Bd hml0 hP hK
  obtain ⟨ha, hZ, hh⟩ := hP
  have hown := findClass_of_methodNamed Bd.named
  have hnm := (name_of_methodNamed Bd.named Bd.method).1
  have e0 : s₁.heap = h := by rw [← hh, Bd.state]; rfl
  have X0 : Stand p l e rm s m args below meth c s₁ [] 0 0 := Stand.of_body Bd
  rw [ha] at X0 ⊢
  obtain ⟨s₂, o, h1, h2⟩ := H p e s m below meth c ⟨Bd.exec, Bd.bytes, hml0, hZ, hown, hnm, Bd.returns, Bd.notSynchronized⟩ s₁ [] s.vm X0 (Bs.start W s _) e0 (Fr.nil n0)
  exact ⟨s₂, o, castTop (hef m) h1, h2⟩
section Rules
variable {W : Bool} {Z : State} {p : Program} {l : Launch} {e : Env} {R : Room} {s : State} {m : MethodId} {args : Array Value} {below : List Frame} {meth : Method} {c : Code} {y : MethodName} {bytes : ByteArray} {maxL : Nat} {ret : Option FieldType} {n0 : Nat} {Q : Option Value → Heap → Prop} {h : Heap} {k n : Nat} {g g' : JFrame} {a0 : Array Value}
theorem Wk.more {k' n' : Nat} (q1 : k ≤ k') (q2 : n ≤ n') (H : Wk W p l e R s m args below meth c n0 Q h k' n' g) : Wk W p l e R s m args below meth c n0 Q h k n g :=
  fun T L vm0 X B eT N => H T L vm0 (X.more q1 q2) B eT N
theorem Wk.st (f : ∀ {T : State} {L : List Loc} {vm0 : Vm}, Stand p l e R (s.setVm vm0) m args below meth c T L k n → ∀ t, Steps p.tables e below (T.setTop g') t → Steps p.tables e below (T.setTop g) t)
    (H : Wk W p l e R s m args below meth c n0 Q h k n g') : Wk W p l e R s m args below meth c n0 Q h k n g := by
  intro T L vm0 X B eT N
  obtain ⟨s₂, o, h1, h2⟩ := H T L vm0 X B eT N
  exact ⟨s₂, o, f X _ h1, h2⟩
/-- a step that needs the tables (as they stand at vm0) and the heap, and leaves the heap -/
theorem Wk.stZ (C : Cx Z p s m meth c y bytes maxL ret) (f : ∀ {T : State} {L : List Loc} {vm0 : Vm}, Stand p l e R (s.setVm vm0) m args below meth c T L k n → Z.Warmed39 (s.setVm vm0).vm → (s.setVm vm0).vm.findClass y.cls = some m.cls → T.heap = h → ∃ T', Stand p l e R (s.setVm vm0) m args below meth c T' L k n ∧ T'.heap = h ∧ ∀ t, Steps p.tables e below (T'.setTop g') t → Steps p.tables e below (T.setTop g) t)
    (H : Wk W p l e R s m args below meth c n0 Q h k n g') : Wk W p l e R s m args below meth c n0 Q h k n g := by
  intro T L vm0 X B eT N
  obtain ⟨T', X', e', st⟩ := f X (C.wZ B) (C.wo B) eT
  obtain ⟨s₂, o, h1, h2⟩ := H T' L vm0 X' B e' N
  exact ⟨s₂, o, st _ h1, h2⟩
/-- a step that writes one place of a new cell -/
theorem Wk.stW (C : Cx Z p s m meth c y bytes maxL ret) {a : Addr} {sl : Nat} {v : Value} (ge : n0 ≤ a) (f : ∀ {T : State} {L : List Loc} {vm0 : Vm}, Stand p l e R (s.setVm vm0) m args below meth c T L k n → Z.Warmed39 (s.setVm vm0).vm → (s.setVm vm0).vm.findClass y.cls = some m.cls → T.heap = h → ∃ T' h', Stand p l e R (s.setVm vm0) m args below meth c T' (L ++ [⟨a, sl⟩]) k n ∧ T'.heap = h' ∧ Wr h h' a sl v ∧ ∀ t, Steps p.tables e below (T'.setTop g') t → Steps p.tables e below (T.setTop g) t)
    (H : ∀ h', Wr h h' a sl v → Wk W p l e R s m args below meth c n0 Q h' k n g') : Wk W p l e R s m args below meth c n0 Q h k n g := by
  intro T L vm0 X B eT N
  obtain ⟨T', h', X', e', Wh, st⟩ := f X (C.wZ B) (C.wo B) eT
  obtain ⟨s₂, o, h1, h2⟩ := H h' Wh T' _ vm0 X' (B.mono (Nat.le_of_eq Wh.size.symm)) e' (Fr.snoc X' N ge)
  exact ⟨s₂, o, st _ h1, h2⟩
theorem Wk.ldcI (C : Cx Z p s m meth c y bytes maxL ret) {index : Nat} {v : Int32} (w : (Cond.constant y.cls index v).before a0 Z = true) {pc : Nat} {Ls : Array Slot} {st : List Value} (hd : decode bytes pc = .ok (.ldc index, 2))
    (H : Wk W p l e R s m args below meth c n0 Q h k n (mkF m (pc + 2) Ls (.int v :: st))) : Wk W p l e R s m args below meth c n0 Q h k n (mkF m pc Ls st) :=
  Wk.stZ C (fun X hZ ho eT => ⟨_, X, eT, fun t q => X.ldcI C.hx ho (mvT hZ w) rfl (hb C.hby hd) q⟩) H
theorem Wk.ldc2J (C : Cx Z p s m meth c y bytes maxL ret) {index : Nat} {v : Int64} (w : (Cond.constantLong y.cls index v).before a0 Z = true) {pc : Nat} {Ls : Array Slot} {st : List Value} (hd : decode bytes pc = .ok (.ldc2_w index, 3))
    (H : Wk W p l e R s m args below meth c n0 Q h k n (mkF m (pc + 3) Ls (.long v :: st))) : Wk W p l e R s m args below meth c n0 Q h k n (mkF m pc Ls st) :=
  Wk.stZ C (fun X hZ ho eT => ⟨_, X, eT, fun t q => X.ldc2J C.hx ho (mvT hZ w) rfl (hb C.hby hd) q⟩) H
theorem Wk.getS (C : Cx Z p s m meth c y bytes maxL ret) {O nm d : String} {index : Nat} (w : (Cond.fieldLink y.cls index O nm d).before a0 Z = true) {v : Value} (F : Sta Z h O nm d v) {pc : Nat} {Ls : Array Slot} {st : List Value} (hd : decode bytes pc = .ok (.getstatic index, 3))
    (H : Wk W p l e R s m args below meth c n0 Q h k n (mkF m (pc + 3) Ls (v :: st))) : Wk W p l e R s m args below meth c n0 Q h k n (mkF m pc Ls st) :=
  Wk.stZ C (fun X hZ ho eT => Jvm.RoadKit.getS (host := "") X C.hx hZ ho w Via.refl eT F (g := mkF m pc Ls st) rfl (hb C.hby hd)) H
theorem Wk.getF (C : Cx Z p s m meth c y bytes maxL ret) {R0 O nm d : String} {index : Nat} (w : (Cond.fieldLink y.cls index R0 nm d).before a0 Z = true) (via : Via Z R0 O nm d) {a : Addr} {v : Value} (F : Fld Z h a O nm d v) {pc : Nat} {Ls : Array Slot} {st : List Value} (hd : decode bytes pc = .ok (.getfield index, 3))
    (H : Wk W p l e R s m args below meth c n0 Q h k n (mkF m (pc + 3) Ls (v :: st))) : Wk W p l e R s m args below meth c n0 Q h k n (mkF m pc Ls (.ref a :: st)) :=
  Wk.stZ C (fun X hZ ho eT => Jvm.RoadKit.getF (host := "") X C.hx hZ ho (Or.inl w) via eT F (g := mkF m pc Ls (.ref a :: st)) rfl rfl (hb C.hby hd)) H
theorem Wk.putF (C : Cx Z p s m meth c y bytes maxL ret) {R0 O nm d K : String} {index kk : Nat} {ty : FieldType} (w : (Cond.fieldLink y.cls index R0 nm d).before a0 Z = true) (via : Via Z R0 O nm d) {a : Addr} {v v' old : Value} (F : Fld Z h a O nm d old) (E : Exa Z h a K)
    (L : (Cond.lays K O nm d).before a0 Z = true ∨ ((Cond.laysFinal K O nm d).before a0 Z = true ∧ y.cls = O ∧ y.name = "<init>")) (wi : (Cond.instantiable K kk).before a0 Z = true) (hty : parseFieldDescriptor d = some ty) (hn : narrow ty v = v') (hf : fits ty v' = true) (ge : n0 ≤ a)
    {pc : Nat} {Ls : Array Slot} {st : List Value} (hd : decode bytes pc = .ok (.putfield index, 3))
    (H : ∀ h', Wr h h' a (Jvm.RoadKit.slotOf Z O nm d) v' → Wk W p l e R s m args below meth c n0 Q h' k n (mkF m (pc + 3) Ls st)) : Wk W p l e R s m args below meth c n0 Q h k n (mkF m pc Ls (v :: .ref a :: st)) :=
  Wk.stW C ge (fun X hZ ho eT => Jvm.RoadKit.putFN X C.hx hZ ho w via eT F E (L.imp id fun q => ⟨q.1, q.2.1, C.hnm.trans q.2.2⟩) wi hty hn hf (g := mkF m pc Ls (v :: .ref a :: st)) rfl rfl (hb C.hby hd)) H
theorem Wk.newO (C : Cx Z p s m meth c y bytes maxL ret) {K : String} {index sz : Nat} (w : (Cond.classLink y.cls index K).before a0 Z = true) (wi : (Cond.instantiable K sz).before a0 Z = true) (wz : (Cond.initialized K).before a0 Z = true) {pc : Nat} {Ls : Array Slot} {st : List Value} (hd : decode bytes pc = .ok (.new index, 3)) (hc : k + 1 ≤ R.cells) (hl : n + sz ≤ R.slots)
    (H : ∀ h' a, a = h.size → Ext h h' → Exa Z h' a K → (∀ {O nm d : String} {ty : FieldType}, Laid Z a0 K O nm d → parseFieldDescriptor d = some ty → Fld Z h' a O nm d (defaultValue ty)) → Wk W p l e R s m args below meth c n0 Q h' (k + 1) (n + sz) (mkF m (pc + 3) Ls (.ref a :: st))) :
    Wk W p l e R s m args below meth c n0 Q h k n (mkF m pc Ls st) := by
  intro T L vm0 X B eT N
  obtain ⟨T', h', X', e', E, A, D, -, st⟩ := Jvm.RoadKit.newO X C.hx (C.wZ B) (C.wo B) w wi wz eT (g := mkF m pc Ls st) rfl (hb C.hby hd) hc hl
  obtain ⟨s₂, o, h1, h2⟩ := H h' _ rfl E A D T' L vm0 X' (B.mono E.1) e' N
  exact ⟨s₂, o, st _ h1, h2⟩
theorem Wk.newP (C : Cx Z p s m meth c y bytes maxL ret) {aty : ArrayType} (w : (Cond.arrayClass (newarray.typeOf aty)).before a0 Z = true) {z : Int32} (hz : ¬ z < 0) {cap : Nat} (hcap : z.toNatClampNeg ≤ cap) (hbig : cap * 8 ≤ 536870912) {pc : Nat} {Ls : Array Slot} {st : List Value} (hd : decode bytes pc = .ok (.newarray aty, 2)) (hc : k + 1 ≤ R.cells) (hl : n + cap ≤ R.slots)
    (H : ∀ h' a cA, a = h.size → Ext h h' → Arr Z h' a (newA cA (newarray.typeOf aty) z) (newarray.typeOf aty) → Wk W p l e R s m args below meth c n0 Q h' (k + 1) (n + cap) (mkF m (pc + 2) Ls (.ref a :: st))) :
    Wk W p l e R s m args below meth c n0 Q h k n (mkF m pc Ls (.int z :: st)) := by
  intro T L vm0 X B eT N
  obtain ⟨T', h', cA, X', e', E, A, st⟩ := Jvm.RoadKit.newP X C.hx (C.wZ B) w eT (g := mkF m pc Ls (.int z :: st)) rfl (hb C.hby hd) rfl hz hcap hbig hc hl
  obtain ⟨s₂, o, h1, h2⟩ := H h' _ cA rfl E A T' L vm0 X' (B.mono E.1) e' N
  exact ⟨s₂, o, st _ h1, h2⟩
theorem Wk.newR (C : Cx Z p s m meth c y bytes maxL ret) {K : String} {index : Nat} (w1 : (Cond.classLink y.cls index K).before a0 Z = true) (w2 : (Cond.arrayOver (.object K)).before a0 Z = true) {z : Int32} (hz : ¬ z < 0) {cap : Nat} (hcap : z.toNatClampNeg ≤ cap) (hbig : cap * 8 ≤ 536870912) {pc : Nat} {Ls : Array Slot} {st : List Value} (hd : decode bytes pc = .ok (.anewarray index, 3)) (hc : k + 1 ≤ R.cells) (hl : n + cap ≤ R.slots)
    (H : ∀ h' a cA, a = h.size → Ext h h' → Arr Z h' a (newA cA (.object K) z) (.object K) → Ovr Z cA K → Wk W p l e R s m args below meth c n0 Q h' (k + 1) (n + cap) (mkF m (pc + 3) Ls (.ref a :: st))) :
    Wk W p l e R s m args below meth c n0 Q h k n (mkF m pc Ls (.int z :: st)) := by
  intro T L vm0 X B eT N
  obtain ⟨T', h', cA, X', e', E, A, O, st⟩ := Jvm.RoadKit.newR X C.hx (C.wZ B) (C.wo B) w1 w2 eT (g := mkF m pc Ls (.int z :: st)) rfl (hb C.hby hd) rfl hz hcap hbig hc hl
  obtain ⟨s₂, o, h1, h2⟩ := H h' _ cA rfl E A O T' L vm0 X' (B.mono E.1) e' N
  exact ⟨s₂, o, st _ h1, h2⟩
theorem Wk.stI (C : Cx Z p s m meth c y bytes maxL ret) {a : Addr} {cl : Cell} (A : Arr Z h a cl .int) {j x : Int32} (hj : ¬ (j < 0 ∨ cl.slots.size ≤ j.toNatClampNeg)) (ge : n0 ≤ a) {pc : Nat} {Ls : Array Slot} {st : List Value} (hd : decode bytes pc = .ok (.iastore, 1))
    (H : ∀ h', Wr h h' a j.toNatClampNeg (.int x) → Wk W p l e R s m args below meth c n0 Q h' k n (mkF m (pc + 1) Ls st)) : Wk W p l e R s m args below meth c n0 Q h k n (mkF m pc Ls (.int x :: .int j :: .ref a :: st)) :=
  Wk.stW C ge (fun X hZ ho eT => Jvm.RoadKit.stI X C.hx hZ eT A hj (g := mkF m pc Ls (.int x :: .int j :: .ref a :: st)) rfl rfl (hb C.hby hd)) H
theorem Wk.stJ (C : Cx Z p s m meth c y bytes maxL ret) {a : Addr} {cl : Cell} (A : Arr Z h a cl .long) {j : Int32} {x : Int64} (hj : ¬ (j < 0 ∨ cl.slots.size ≤ j.toNatClampNeg)) (ge : n0 ≤ a) {pc : Nat} {Ls : Array Slot} {st : List Value} (hd : decode bytes pc = .ok (.lastore, 1))
    (H : ∀ h', Wr h h' a j.toNatClampNeg (.long x) → Wk W p l e R s m args below meth c n0 Q h' k n (mkF m (pc + 1) Ls st)) : Wk W p l e R s m args below meth c n0 Q h k n (mkF m pc Ls (.long x :: .int j :: .ref a :: st)) :=
  Wk.stW C ge (fun X hZ ho eT => Jvm.RoadKit.stJ X C.hx hZ eT A hj (g := mkF m pc Ls (.long x :: .int j :: .ref a :: st)) rfl rfl (hb C.hby hd)) H
theorem Wk.stR (C : Cx Z p s m meth c y bytes maxL ret) {a : Addr} {cl : Cell} {ty : FieldType} (A : Arr Z h a cl ty) {j : Int32} {v : Value} (hj : ¬ (j < 0 ∨ cl.slots.size ≤ j.toNatClampNeg)) (hty : ty.isReference = true) (F : Sto Z h a v) (ge : n0 ≤ a) {pc : Nat} {Ls : Array Slot} {st : List Value} (hd : decode bytes pc = .ok (.aastore, 1))
    (H : ∀ h', Wr h h' a j.toNatClampNeg v → Wk W p l e R s m args below meth c n0 Q h' k n (mkF m (pc + 1) Ls st)) : Wk W p l e R s m args below meth c n0 Q h k n (mkF m pc Ls (v :: .int j :: .ref a :: st)) :=
  Wk.stW C ge (fun X hZ ho eT => Jvm.RoadKit.stR X C.hx hZ eT A hj hty F (g := mkF m pc Ls (v :: .int j :: .ref a :: st)) rfl rfl (hb C.hby hd)) H
theorem Wk.len (C : Cx Z p s m meth c y bytes maxL ret) {a : Addr} {cl : Cell} {ty : FieldType} (A : Arr Z h a cl ty) {pc : Nat} {Ls : Array Slot} {st : List Value} (hd : decode bytes pc = .ok (.arraylength, 1))
    (H : Wk W p l e R s m args below meth c n0 Q h k n (mkF m (pc + 1) Ls (.int cl.slots.size.toInt32 :: st))) : Wk W p l e R s m args below meth c n0 Q h k n (mkF m pc Ls (.ref a :: st)) :=
  Wk.stZ C (fun X hZ ho eT => ⟨_, X, eT, X.arraylength C.hx (by rw [eT]; exact A.1) (State.isArrayOf_alike hZ.alike A.2.1) (g := mkF m pc Ls (.ref a :: st)) rfl rfl (hb C.hby hd)⟩) H
theorem Wk.ldI (C : Cx Z p s m meth c y bytes maxL ret) {a : Addr} {cl : Cell} (A : Arr Z h a cl .int) {j : Int32} {v : Value} (hj : ¬ (j < 0 ∨ cl.slots.size ≤ j.toNatClampNeg)) (hv : cl.slots[j.toNatClampNeg]? = some v) {pc : Nat} {Ls : Array Slot} {st : List Value} (hd : decode bytes pc = .ok (.iaload, 1))
    (H : Wk W p l e R s m args below meth c n0 Q h k n (mkF m (pc + 1) Ls (v :: st))) : Wk W p l e R s m args below meth c n0 Q h k n (mkF m pc Ls (.int j :: .ref a :: st)) :=
  Wk.stZ C (fun X hZ ho eT => ⟨_, X, eT, X.iaload C.hx (by rw [eT]; exact A.1) (State.isArrayOf_alike hZ.alike A.2.1) A.2.2 hj hv (g := mkF m pc Ls (.int j :: .ref a :: st)) rfl rfl (hb C.hby hd)⟩) H
theorem Wk.ldJ (C : Cx Z p s m meth c y bytes maxL ret) {a : Addr} {cl : Cell} (A : Arr Z h a cl .long) {j : Int32} {v : Value} (hj : ¬ (j < 0 ∨ cl.slots.size ≤ j.toNatClampNeg)) (hv : cl.slots[j.toNatClampNeg]? = some v) {pc : Nat} {Ls : Array Slot} {st : List Value} (hd : decode bytes pc = .ok (.laload, 1))
    (H : Wk W p l e R s m args below meth c n0 Q h k n (mkF m (pc + 1) Ls (v :: st))) : Wk W p l e R s m args below meth c n0 Q h k n (mkF m pc Ls (.int j :: .ref a :: st)) :=
  Wk.stZ C (fun X hZ ho eT => ⟨_, X, eT, X.laload C.hx (by rw [eT]; exact A.1) (State.isArrayOf_alike hZ.alike A.2.1) A.2.2 hj hv (g := mkF m pc Ls (.int j :: .ref a :: st)) rfl rfl (hb C.hby hd)⟩) H
theorem Wk.ldR (C : Cx Z p s m meth c y bytes maxL ret) {a : Addr} {cl : Cell} {ty : FieldType} (A : Arr Z h a cl ty) (hty : ty.isReference = true) {j : Int32} {v : Value} (hj : ¬ (j < 0 ∨ cl.slots.size ≤ j.toNatClampNeg)) (hv : cl.slots[j.toNatClampNeg]? = some v) {pc : Nat} {Ls : Array Slot} {st : List Value} (hd : decode bytes pc = .ok (.aaload, 1))
    (H : Wk W p l e R s m args below meth c n0 Q h k n (mkF m (pc + 1) Ls (v :: st))) : Wk W p l e R s m args below meth c n0 Q h k n (mkF m pc Ls (.int j :: .ref a :: st)) :=
  Wk.stZ C (fun X hZ ho eT => ⟨_, X, eT, X.aaload C.hx (by rw [eT]; exact A.1) (State.isArrayOf_alike hZ.alike A.2.1) hty A.2.2 hj hv (g := mkF m pc Ls (.int j :: .ref a :: st)) rfl rfl (hb C.hby hd)⟩) H
theorem Wk.ldZ (C : Cx Z p s m meth c y bytes maxL ret) {a : Addr} {cl : Cell} (A : Arr Z h a cl .boolean) {j : Int32} {v : Value} (hj : ¬ (j < 0 ∨ cl.slots.size ≤ j.toNatClampNeg)) (hv : cl.slots[j.toNatClampNeg]? = some v) {pc : Nat} {Ls : Array Slot} {st : List Value} (hd : decode bytes pc = .ok (.baload, 1))
    (H : Wk W p l e R s m args below meth c n0 Q h k n (mkF m (pc + 1) Ls (v :: st))) : Wk W p l e R s m args below meth c n0 Q h k n (mkF m pc Ls (.int j :: .ref a :: st)) :=
  Wk.stZ C (fun X hZ ho eT => ⟨_, X, eT, X.baloadBooleans C.hx (by rw [eT]; exact A.1) (State.isArrayOf_alike hZ.alike A.2.1) A.2.2 hj hv (g := mkF m pc Ls (.int j :: .ref a :: st)) rfl rfl (hb C.hby hd)⟩) H
theorem Wk.stZb (C : Cx Z p s m meth c y bytes maxL ret) {a : Addr} {cl : Cell} (A : Arr Z h a cl .boolean) {j x : Int32} (hj : ¬ (j < 0 ∨ cl.slots.size ≤ j.toNatClampNeg)) (ge : n0 ≤ a) {pc : Nat} {Ls : Array Slot} {st : List Value} (hd : decode bytes pc = .ok (.bastore, 1))
    (H : ∀ h', Wr h h' a j.toNatClampNeg (.int (nar .boolean x)) → Wk W p l e R s m args below meth c n0 Q h' k n (mkF m (pc + 1) Ls st)) : Wk W p l e R s m args below meth c n0 Q h k n (mkF m pc Ls (.int x :: .int j :: .ref a :: st)) :=
  Wk.stW C ge (fun X hZ ho eT => Jvm.RoadKit.stZ X C.hx hZ eT A hj (g := mkF m pc Ls (.int x :: .int j :: .ref a :: st)) rfl rfl (hb C.hby hd)) H
theorem Wk.stB (C : Cx Z p s m meth c y bytes maxL ret) {a : Addr} {cl : Cell} (A : Arr Z h a cl .byte) {j x : Int32} (hj : ¬ (j < 0 ∨ cl.slots.size ≤ j.toNatClampNeg)) (ge : n0 ≤ a) {pc : Nat} {Ls : Array Slot} {st : List Value} (hd : decode bytes pc = .ok (.bastore, 1))
    (H : ∀ h', Wr h h' a j.toNatClampNeg (.int (nar .byte x)) → Wk W p l e R s m args below meth c n0 Q h' k n (mkF m (pc + 1) Ls st)) : Wk W p l e R s m args below meth c n0 Q h k n (mkF m pc Ls (.int x :: .int j :: .ref a :: st)) :=
  Wk.stW C ge (fun X hZ ho eT => Jvm.RoadKit.stB X C.hx hZ eT A hj (g := mkF m pc Ls (.int x :: .int j :: .ref a :: st)) rfl rfl (hb C.hby hd)) H
theorem Wk.stC (C : Cx Z p s m meth c y bytes maxL ret) {a : Addr} {cl : Cell} (A : Arr Z h a cl .char) {j x : Int32} (hj : ¬ (j < 0 ∨ cl.slots.size ≤ j.toNatClampNeg)) (ge : n0 ≤ a) {pc : Nat} {Ls : Array Slot} {st : List Value} (hd : decode bytes pc = .ok (.castore, 1))
    (H : ∀ h', Wr h h' a j.toNatClampNeg (.int (nar .char x)) → Wk W p l e R s m args below meth c n0 Q h' k n (mkF m (pc + 1) Ls st)) : Wk W p l e R s m args below meth c n0 Q h k n (mkF m pc Ls (.int x :: .int j :: .ref a :: st)) :=
  Wk.stW C ge (fun X hZ ho eT => Jvm.RoadKit.stC X C.hx hZ eT A hj (g := mkF m pc Ls (.int x :: .int j :: .ref a :: st)) rfl rfl (hb C.hby hd)) H
theorem Wk.initO (C : Cx Z p s m meth c y bytes maxL ret) {index : Nat} (w1 : (Cond.methodLink y.cls index Lib.objectInit).before a0 Z = true) (w2 : (Cond.instanceMethod Lib.objectInit).before a0 Z = true) (w3 : (Cond.code Lib.objectInit ⟨#[0xb1]⟩ 1 none).before a0 Z = true) {a : Addr} {w : Nat} {pc : Nat} {Ls : Array Slot} {st : List Value} (hls : Ls.size = maxL) (hd : decode bytes pc = .ok (.invokespecial index, 3)) (hf : 1 ≤ R.frames) (hw : (st.map fun v => v.category).sum ≤ w) (hl : w + 12 ≤ R.locals)
    (H : Wk W p l e R s m args below meth c n0 Q h k n (mkF m (pc + 3) Ls st)) : Wk W p l e R s m args below meth c n0 Q h k n (mkF m pc Ls (.ref a :: st)) :=
  Wk.stZ C (fun X hZ ho eT => Jvm.RoadKit.initO X C.hx hZ ho w1 w2 w3 eT (g := mkF m pc Ls (.ref a :: st)) rfl (hls.trans C.hml.symm) rfl (hb C.hby hd) hf (W := w) (by show 2 * 0 + _ ≤ _; omega) hl) H
theorem Wk.retV (C : Cx Z p s m meth c y bytes maxL ret) {pc : Nat} {Ls : Array Slot} {w : Value} {t : FieldType} {i : Instr} {rest : List Value} (ht : ret = some t) (hn : narrow t w = w)
    (hi : (i = .ireturn ∧ (t = .int ∨ t = .boolean ∨ t = .byte ∨ t = .char ∨ t = .short) ∧ ∃ z, w = .int z) ∨ (i = .lreturn ∧ t = .long ∧ ∃ z, w = .long z) ∨ (i = .dreturn ∧ t = .double ∧ ∃ z, w = .double z) ∨ (i = .freturn ∧ t = .float ∧ ∃ z, w = .float z) ∨ (i = .areturn ∧ t.isReference = true ∧ w.isRef = true))
    (hd : decode bytes pc = .ok (i, 1)) (hk : k ≤ R.cells) (hs : n ≤ R.slots) (hq : Q (some w) h) : Wk W p l e R s m args below meth c n0 Q h k n (mkF m pc Ls (w :: rest)) := by
  intro T L vm0 X B eT N
  have hlk := C.hlk
  have hv : meth.sig.returnType = none → (some w : Option Value) = none := fun h => by rw [C.hret, ht] at h; cases h
  cases W
  · cases (B : vm0 = s.vm)
    obtain ⟨fs, hr, hrun, hended, hW, hsame⟩ := Stand.leave (s := s) X (v := some w) hv hlk
    refine ⟨_, _, retOut X C.hx (C.hret.trans ht) hn hi (hb C.hby hd) hr, hrun, hended, _, L, rfl, ⟨?_, N⟩, ⟨_, rfl⟩, hW, hsame.mono hk hs⟩
    show Q (some w) T.heap
    rw [eT]; exact hq
  · obtain ⟨k0, hS, hk0⟩ := (B : ∃ k0, s.Since vm0 k0 ∧ k0 ≤ h.size)
    obtain ⟨fs, hr, hrun, hended, hE⟩ := X.leaveW hS (by rw [eT]; exact hk0) (v := some w) hv hlk
    refine ⟨_, _, retOut X C.hx (C.hret.trans ht) hn hi (hb C.hby hd) hr, hrun, hended, _, L, rfl, ⟨?_, N⟩, hE.1, hE.2.1, hE.2.2.1, hE.2.2.2.mono hk hs⟩
    show Q (some w) T.heap
    rw [eT]; exact hq
theorem Wk.retN0 (C : Cx Z p s m meth c y bytes maxL ret) {pc : Nat} {Ls : Array Slot} (ht : ret = none) (hd : decode bytes pc = .ok (.return_, 1)) (hk : k ≤ R.cells) (hs : n ≤ R.slots) (hq : Q none h) : Wk W p l e R s m args below meth c n0 Q h k n (mkF m pc Ls []) := by
  intro T L vm0 X B eT N
  have hlk := C.hlk
  have hv : meth.sig.returnType = none → (none : Option Value) = none := fun _ => rfl
  cases W
  · cases (B : vm0 = s.vm)
    obtain ⟨fs, hr, hrun, hended, hW, hsame⟩ := Stand.leave (s := s) X (v := none) hv hlk
    refine ⟨_, _, X.returnOut C.hx (C.hret.trans ht) (hb C.hby hd) hr, hrun, hended, _, L, rfl, ⟨?_, N⟩, ⟨_, rfl⟩, hW, hsame.mono hk hs⟩
    show Q none T.heap
    rw [eT]; exact hq
  · obtain ⟨k0, hS, hk0⟩ := (B : ∃ k0, s.Since vm0 k0 ∧ k0 ≤ h.size)
    obtain ⟨fs, hr, hrun, hended, hE⟩ := X.leaveW hS (by rw [eT]; exact hk0) (v := none) hv hlk
    refine ⟨_, _, X.returnOut C.hx (C.hret.trans ht) (hb C.hby hd) hr, hrun, hended, _, L, rfl, ⟨?_, N⟩, hE.1, hE.2.1, hE.2.2.1, hE.2.2.2.mono hk hs⟩
    show Q none T.heap
    rw [eT]; exact hq
/-- the three calls, by the callee's contract -/
theorem Wk.callS (C : Cx Z p s m meth c y bytes maxL ret) {z : MethodName} {index : Nat} {bz : ByteArray} {mz : Nat} {rz : Option FieldType} {rm : Room} {asL : List Value} {Qz : Option Value → Heap → Prop}
    (w1 : (Cond.methodLink y.cls index z).before a0 Z = true) (w2 : (Cond.static z).before a0 Z = true) (w3 : (Cond.initialized z.cls).before a0 Z = true) (w4 : (Cond.code z bz mz rz).before a0 Z = true)
    (hz : z.cls ≠ "java/lang/invoke/MethodHandle" ∧ z.cls ≠ "java/lang/invoke/VarHandle") (M : Met W l Z n0 z bz mz rz rm asL.toArray h Qz) {w : Nat} (hf : rm.frames + 1 ≤ R.frames) (hl : w + (mz + 11) + rm.locals ≤ R.locals)
    {ps : List FieldType} {r : Option FieldType} (hlen : parseMethodDescriptor z.desc = some ⟨ps, r⟩) (hps : asL.length = ps.length) {pc : Nat} {Ls : Array Slot} {st rest : List Value} (hls : Ls.size = maxL) (hst : st = asL.reverse ++ rest) (hw : (rest.map fun v => v.category).sum ≤ w)
    (hc : k + rm.cells ≤ R.cells) (hs : n + rm.slots ≤ R.slots) (hd : decode bytes pc = .ok (.invokestatic index, 3))
    (H : ∀ v h', Qz v h' → Wk W p l e R s m args below meth c n0 Q h' (k + rm.cells) (n + rm.slots) (mkF m (pc + 3) Ls (v.toList ++ rest))) : Wk W p l e R s m args below meth c n0 Q h k n (mkF m pc Ls st) := by
  intro T L vm0 X B eT N
  subst hst
  have hZ := C.wZ B
  have ho := C.wo B
  have hw' : 2 * (mkF m pc Ls (asL.reverse ++ rest)).monitorRoom + (rest.map fun v => v.category).sum ≤ w := by show 2 * 0 + _ ≤ _; omega
  cases W
  · obtain ⟨v, vm₁, ⟨T', L', k', n'⟩, -, X', ⟨Lc, hQ, l1, y1, z1⟩, st⟩ := Jvm.LawKit.callS X C.hx ho (mvT hZ w1) (mvT hZ w2) (mvT hZ w3) (mvT hZ w4) hz (backOf (W := w) (Q := fun v h L => Qz v h ∧ Fr n0 L) (M []) hZ w4 w3 hf hl) (g := mkF m pc Ls (asL.reverse ++ rest)) rfl (hls.trans C.hml.symm) (argsL := asL) (rest := rest) (lenOf hlen hps) rfl hw' (hb C.hby hd) (fun _ _ => ⟨rfl, eT, hc, hs⟩)
    dsimp only [Pt.U, Pt.locs, Pt.cells, Pt.slots] at X' l1 y1 z1 st hQ
    subst l1 y1 z1
    obtain ⟨s₂, o, h1, h2⟩ := H v T'.heap hQ.1 T' _ vm0 X' (B : vm0 = s.vm) rfl (N.app hQ.2)
    exact ⟨s₂, o, st _ h1, h2⟩
  · obtain ⟨v, vm₁, ⟨T', L', k', n'⟩, -, X', hS', hgr, ⟨Lc, hQ, l1, y1, z1⟩, st⟩ := callSS X C.hx ho (mvT hZ w1) (mvT hZ w2) (mvT hZ w3) (mvT hZ w4) hz (backOfS (W := w) (Q := fun v h L => Qz v h ∧ Fr n0 L) (M []) hZ w4 w3 hf hl) (g := mkF m pc Ls (asL.reverse ++ rest)) rfl (hls.trans C.hml.symm) (argsL := asL) (rest := rest) (lenOf hlen hps) rfl hw' (hb C.hby hd) (fun _ _ => ⟨rfl, eT, hc, hs⟩)
    dsimp only [Pt.U, Pt.locs, Pt.cells, Pt.slots] at X' hS' hgr l1 y1 z1 st hQ
    subst l1 y1 z1
    obtain ⟨k0, hS, hk0⟩ := (B : ∃ k0, s.Since vm0 k0 ∧ k0 ≤ h.size)
    obtain ⟨s₂, o, h1, h2⟩ := H v T'.heap hQ.1 T' _ T'.vm X' ⟨_, foldS hS (by rw [eT]; exact hk0) hS' hgr, Nat.le_refl _⟩ rfl (N.app hQ.2)
    exact ⟨s₂, o, st.trans h1, h2⟩
theorem Wk.callI (C : Cx Z p s m meth c y bytes maxL ret) {z : MethodName} {index : Nat} {bz : ByteArray} {mz : Nat} {rm : Room} {a : Addr} {asL : List Value} {Qz : Option Value → Heap → Prop} (hz1 : z.name = "<init>")
    (w1 : (Cond.methodLink y.cls index z).before a0 Z = true) (w2 : (Cond.instanceMethod z).before a0 Z = true) (w3 : (Cond.initialized z.cls).before a0 Z = true) (w4 : (Cond.code z bz mz none).before a0 Z = true)
    (hz : z.cls ≠ "java/lang/invoke/MethodHandle" ∧ z.cls ≠ "java/lang/invoke/VarHandle") (M : Met W l Z n0 z bz mz none rm (.ref a :: asL).toArray h Qz) {w : Nat} (hf : rm.frames + 1 ≤ R.frames) (hl : w + (mz + 11) + rm.locals ≤ R.locals)
    {ps : List FieldType} {r : Option FieldType} (hlen : parseMethodDescriptor z.desc = some ⟨ps, r⟩) (hps : asL.length = ps.length) {pc : Nat} {Ls : Array Slot} {st rest : List Value} (hls : Ls.size = maxL) (hst : st = asL.reverse ++ .ref a :: rest) (hw : (rest.map fun v => v.category).sum ≤ w)
    (hc : k + rm.cells ≤ R.cells) (hs : n + rm.slots ≤ R.slots) (hd : decode bytes pc = .ok (.invokespecial index, 3))
    (H : ∀ v h', Qz v h' → Wk W p l e R s m args below meth c n0 Q h' (k + rm.cells) (n + rm.slots) (mkF m (pc + 3) Ls (v.toList ++ rest))) : Wk W p l e R s m args below meth c n0 Q h k n (mkF m pc Ls st) := by
  intro T L vm0 X B eT N
  subst hst
  have hZ := C.wZ B
  have ho := C.wo B
  have hw' : 2 * (mkF m pc Ls (asL.reverse ++ .ref a :: rest)).monitorRoom + (rest.map fun v => v.category).sum ≤ w := by show 2 * 0 + _ ≤ _; omega
  cases W
  · obtain ⟨v, vm₁, ⟨T', L', k', n'⟩, -, X', ⟨Lc, hQ, l1, y1, z1⟩, st⟩ := X.specialBack C.hx hz1 ho (mvT hZ w1) (mvT hZ w2) (mvT hZ w4) hz (backOf (W := w) (Q := fun v h L => Qz v h ∧ Fr n0 L) (M []) hZ w4 w3 hf hl) (g := mkF m pc Ls (asL.reverse ++ .ref a :: rest)) rfl (hls.trans C.hml.symm) (Steps.refl _) (a := a) (argsL := asL) (rest := rest) (lenOf hlen hps) rfl hw' (hb C.hby hd) (fun _ _ => ⟨rfl, eT, hc, hs⟩)
    dsimp only [Pt.U, Pt.locs, Pt.cells, Pt.slots] at X' l1 y1 z1 st hQ
    subst l1 y1 z1
    obtain ⟨s₂, o, h1, h2⟩ := H v T'.heap hQ.1 T' _ vm0 X' (B : vm0 = s.vm) rfl (N.app hQ.2)
    exact ⟨s₂, o, st.trans h1, h2⟩
  · obtain ⟨v, vm₁, ⟨T', L', k', n'⟩, -, X', hS', hgr, ⟨Lc, hQ, l1, y1, z1⟩, st⟩ := X.specialBackS C.hx hz1 ho (mvT hZ w1) (mvT hZ w2) (mvT hZ w4) hz (backOfS (W := w) (Q := fun v h L => Qz v h ∧ Fr n0 L) (M []) hZ w4 w3 hf hl) (g := mkF m pc Ls (asL.reverse ++ .ref a :: rest)) rfl (hls.trans C.hml.symm) (Steps.refl _) (a := a) (argsL := asL) (rest := rest) (lenOf hlen hps) rfl hw' (hb C.hby hd) (fun _ _ => ⟨rfl, eT, hc, hs⟩)
    dsimp only [Pt.U, Pt.locs, Pt.cells, Pt.slots] at X' hS' hgr l1 y1 z1 st hQ
    subst l1 y1 z1
    obtain ⟨k0, hS, hk0⟩ := (B : ∃ k0, s.Since vm0 k0 ∧ k0 ≤ h.size)
    obtain ⟨s₂, o, h1, h2⟩ := H v T'.heap hQ.1 T' _ T'.vm X' ⟨_, foldS hS (by rw [eT]; exact hk0) hS' hgr, Nat.le_refl _⟩ rfl (N.app hQ.2)
    exact ⟨s₂, o, st.trans h1, h2⟩
theorem Wk.callV (C : Cx Z p s m meth c y bytes maxL ret) {x z : MethodName} {K : String} {index : Nat} {bz : ByteArray} {mz : Nat} {rz : Option FieldType} {rm : Room} {a : Addr} {asL : List Value} {Qz : Option Value → Heap → Prop}
    (w1 : (Cond.methodLink y.cls index x).before a0 Z = true) (w2 : (Cond.declares x).before a0 Z = true) (w5 : (Cond.selects K x z).before a0 Z = true) (w6 : (Cond.instanceMethod z).before a0 Z = true) (w3 : (Cond.initialized z.cls).before a0 Z = true) (w4 : (Cond.code z bz mz rz).before a0 Z = true)
    (hz : x.cls ≠ "java/lang/invoke/MethodHandle" ∧ x.cls ≠ "java/lang/invoke/VarHandle") (hnf : ∀ s' : State, Z.Warmed39 s'.vm → NotFace s' x) (E : Exa Z h a K) (M : Met W l Z n0 z bz mz rz rm (.ref a :: asL).toArray h Qz) {w : Nat} (hf : rm.frames + 1 ≤ R.frames) (hl : w + (mz + 11) + rm.locals ≤ R.locals)
    {ps : List FieldType} {r : Option FieldType} (hlen : parseMethodDescriptor x.desc = some ⟨ps, r⟩) (hps : asL.length = ps.length) {pc : Nat} {Ls : Array Slot} {st rest : List Value} (hls : Ls.size = maxL) (hst : st = asL.reverse ++ .ref a :: rest) (hw : (rest.map fun v => v.category).sum ≤ w)
    (hc : k + rm.cells ≤ R.cells) (hs : n + rm.slots ≤ R.slots) (hd : decode bytes pc = .ok (.invokevirtual index, 3))
    (H : ∀ v h', Qz v h' → Wk W p l e R s m args below meth c n0 Q h' (k + rm.cells) (n + rm.slots) (mkF m (pc + 3) Ls (v.toList ++ rest))) : Wk W p l e R s m args below meth c n0 Q h k n (mkF m pc Ls st) := by
  intro T L vm0 X B eT N
  subst hst
  have hZ := C.wZ B
  have ho := C.wo B
  have hw' : 2 * (mkF m pc Ls (asL.reverse ++ .ref a :: rest)).monitorRoom + (rest.map fun v => v.category).sum ≤ w := by show 2 * 0 + _ ≤ _; omega
  obtain ⟨cq, kq, qa, qb, qc⟩ := isOf hZ eT E
  cases W
  · obtain ⟨v, vm₁, ⟨T', L', k', n'⟩, -, X', ⟨Lc, hQ, l1, y1, z1⟩, st⟩ := X.virtualBack C.hx (y := x) (z := z) ho (mvT hZ w1) (mvT hZ w2) (hnf _ hZ) (mvT hZ w5) (mvT hZ w6) hz (backOf (W := w) (Q := fun v h L => Qz v h ∧ Fr n0 L) (M []) hZ w4 w3 hf hl) qa qc (g := mkF m pc Ls (asL.reverse ++ .ref a :: rest)) rfl (hls.trans C.hml.symm) (Steps.refl _) (argsL := asL) (rest := rest) (lenOf hlen hps) rfl hw' (hb C.hby hd) (fun _ _ => ⟨rfl, eT, hc, hs⟩)
    dsimp only [Pt.U, Pt.locs, Pt.cells, Pt.slots] at X' l1 y1 z1 st hQ
    subst l1 y1 z1
    obtain ⟨s₂, o, h1, h2⟩ := H v T'.heap hQ.1 T' _ vm0 X' (B : vm0 = s.vm) rfl (N.app hQ.2)
    exact ⟨s₂, o, st.trans h1, h2⟩
  · obtain ⟨v, vm₁, ⟨T', L', k', n'⟩, -, X', hS', hgr, ⟨Lc, hQ, l1, y1, z1⟩, st⟩ := X.virtualBackS C.hx (y := x) (z := z) ho (mvT hZ w1) (mvT hZ w2) (hnf _ hZ) (mvT hZ w5) (mvT hZ w6) hz (backOfS (W := w) (Q := fun v h L => Qz v h ∧ Fr n0 L) (M []) hZ w4 w3 hf hl) qa qc (g := mkF m pc Ls (asL.reverse ++ .ref a :: rest)) rfl (hls.trans C.hml.symm) (Steps.refl _) (argsL := asL) (rest := rest) (lenOf hlen hps) rfl hw' (hb C.hby hd) (fun _ _ => ⟨rfl, eT, hc, hs⟩)
    dsimp only [Pt.U, Pt.locs, Pt.cells, Pt.slots] at X' hS' hgr l1 y1 z1 st hQ
    subst l1 y1 z1
    obtain ⟨k0, hS, hk0⟩ := (B : ∃ k0, s.Since vm0 k0 ∧ k0 ≤ h.size)
    obtain ⟨s₂, o, h1, h2⟩ := H v T'.heap hQ.1 T' _ T'.vm X' ⟨_, foldS hS (by rw [eT]; exact hk0) hS' hgr, Nat.le_refl _⟩ rfl (N.app hQ.2)
    exact ⟨s₂, o, st.trans h1, h2⟩
theorem Wk.callU (C : Cx Z p s m meth c y bytes maxL ret) {x z : MethodName} {K owner : String} {index : Nat} {bz : ByteArray} {mz : Nat} {rz : Option FieldType} {rm : Room} {a : Addr} {asL : List Value} {Qz : Option Value → Heap → Prop}
    (w1 : (Cond.methodLink y.cls index x).before a0 Z = true) (w7 : (Cond.sameMethod x.cls owner x.name x.desc).before a0 Z = true) (w2 : (Cond.declares ⟨owner, x.name, x.desc⟩).before a0 Z = true) (w5 : (Cond.selects K x z).before a0 Z = true) (w6 : (Cond.instanceMethod z).before a0 Z = true) (w3 : (Cond.initialized z.cls).before a0 Z = true) (w4 : (Cond.code z bz mz rz).before a0 Z = true)
    (hz : owner ≠ "java/lang/invoke/MethodHandle" ∧ owner ≠ "java/lang/invoke/VarHandle") (E : Exa Z h a K) (M : Met W l Z n0 z bz mz rz rm (.ref a :: asL).toArray h Qz) {w : Nat} (hf : rm.frames + 1 ≤ R.frames) (hl : w + (mz + 11) + rm.locals ≤ R.locals)
    {ps : List FieldType} {r : Option FieldType} (hlen : parseMethodDescriptor x.desc = some ⟨ps, r⟩) (hps : asL.length = ps.length) {pc : Nat} {Ls : Array Slot} {st rest : List Value} (hls : Ls.size = maxL) (hst : st = asL.reverse ++ .ref a :: rest) (hw : (rest.map fun v => v.category).sum ≤ w)
    (hc : k + rm.cells ≤ R.cells) (hs : n + rm.slots ≤ R.slots) (hd : decode bytes pc = .ok (.invokevirtual index, 3))
    (H : ∀ v h', Qz v h' → Wk W p l e R s m args below meth c n0 Q h' (k + rm.cells) (n + rm.slots) (mkF m (pc + 3) Ls (v.toList ++ rest))) : Wk W p l e R s m args below meth c n0 Q h k n (mkF m pc Ls st) := by
  intro T L vm0 X B eT N
  subst hst
  have hZ := C.wZ B
  have ho := C.wo B
  have hw' : 2 * (mkF m pc Ls (asL.reverse ++ .ref a :: rest)).monitorRoom + (rest.map fun v => v.category).sum ≤ w := by show 2 * 0 + _ ≤ _; omega
  obtain ⟨cq, kq, qa, qb, qc⟩ := isOf hZ eT E
  cases W
  · obtain ⟨v, vm₁, ⟨T', L', k', n'⟩, -, X', ⟨Lc, hQ, l1, y1, z1⟩, st⟩ := X.virtualBackUp C.hx (x := x) (y := z) ho (mvT hZ w1) (mvT hZ w7) (mvT hZ w2) hz (mvT hZ w5) (mvT hZ w6) (backOf (W := w) (Q := fun v h L => Qz v h ∧ Fr n0 L) (M []) hZ w4 w3 hf hl) qa qc (g := mkF m pc Ls (asL.reverse ++ .ref a :: rest)) rfl (hls.trans C.hml.symm) (Steps.refl _) (argsL := asL) (rest := rest) (lenOf hlen hps) rfl hw' (hb C.hby hd) (fun _ _ => ⟨rfl, eT, hc, hs⟩)
    dsimp only [Pt.U, Pt.locs, Pt.cells, Pt.slots] at X' l1 y1 z1 st hQ
    subst l1 y1 z1
    obtain ⟨s₂, o, h1, h2⟩ := H v T'.heap hQ.1 T' _ vm0 X' (B : vm0 = s.vm) rfl (N.app hQ.2)
    exact ⟨s₂, o, st.trans h1, h2⟩
  · obtain ⟨v, vm₁, ⟨T', L', k', n'⟩, -, X', hS', hgr, ⟨Lc, hQ, l1, y1, z1⟩, st⟩ := X.virtualBackUpS C.hx (x := x) (y := z) ho (mvT hZ w1) (mvT hZ w7) (mvT hZ w2) hz (mvT hZ w5) (mvT hZ w6) (backOfS (W := w) (Q := fun v h L => Qz v h ∧ Fr n0 L) (M []) hZ w4 w3 hf hl) qa qc (g := mkF m pc Ls (asL.reverse ++ .ref a :: rest)) rfl (hls.trans C.hml.symm) (Steps.refl _) (argsL := asL) (rest := rest) (lenOf hlen hps) rfl hw' (hb C.hby hd) (fun _ _ => ⟨rfl, eT, hc, hs⟩)
    dsimp only [Pt.U, Pt.locs, Pt.cells, Pt.slots] at X' hS' hgr l1 y1 z1 st hQ
    subst l1 y1 z1
    obtain ⟨k0, hS, hk0⟩ := (B : ∃ k0, s.Since vm0 k0 ∧ k0 ≤ h.size)
    obtain ⟨s₂, o, h1, h2⟩ := H v T'.heap hQ.1 T' _ T'.vm X' ⟨_, foldS hS (by rw [eT]; exact hk0) hS' hgr, Nat.le_refl _⟩ rfl (N.app hQ.2)
    exact ⟨s₂, o, st.trans h1, h2⟩
theorem Wk.ldcS (C : Cx Z p s m meth c y bytes maxL ret) {index : Nat} {text : String} (w : (Cond.stringLink y.cls index text).before a0 Z = true) (wS : ∀ d ∈ Bundle.stringAtoms, d.before a0 Z = true) {N : Nat} (hn : 4 * text.toList.length ≤ N) (hbig : N ≤ 536870912) {pc : Nat} {Ls : Array Slot} {st : List Value} (hd : decode bytes pc = .ok (.ldc index, 2)) (hc : k + 2 ≤ R.cells) (hl : n + (N + 4) ≤ R.slots)
    (H : ∀ h' a, Ext h h' → Wk true p l e R s m args below meth c n0 Q h' (k + 2) (n + (N + 4)) (mkF m (pc + 2) Ls (.ref a :: st))) : Wk true p l e R s m args below meth c n0 Q h k n (mkF m pc Ls st) := by
  intro T L vm0 X B eT N'
  have hZ := C.wZ B
  have ho := C.wo B
  obtain ⟨k0, hS, hk0⟩ := (B : ∃ k0, s.Since vm0 k0 ∧ k0 ≤ h.size)
  obtain ⟨a, T', h', k1, X', e', E, hS', hk1, -, -, st⟩ := Jvm.RoadKit.ldcS X C.hx hZ ho w wS eT hS hk0 (g := mkF m pc Ls st) rfl (hb C.hby hd) hn hbig hc hl
  obtain ⟨s₂, o, h1, h2⟩ := H h' a E T' L T'.vm X' ⟨k1, hS', hk1⟩ e' N'
  exact ⟨s₂, o, st _ h1, h2⟩
end Rules
theorem ext_trans {h h' h'' : Heap} (E : Ext h h') (E' : Ext h' h'') : Ext h h'' := ⟨Nat.le_trans E.1 E'.1, fun a c q => E'.2 a c (E.2 a c q)⟩
theorem ext_refl (h : Heap) : Ext h h := ⟨Nat.le_refl _, fun _ _ q => q⟩
end Jvm.Own
namespace Jvm.Own
open Jvm Jvm.ClassFile Sem Op Lib Jvm.Free Jvm.Stand Jvm.LawKit Jvm.RoadKit
/-! statics that hold objects, told apart by a field -/
theorem stat_exa {args : Array Value} {s : State} {C n d K : String} (wi : (Cond.initialized C).before args s = true) (wl : (Cond.laysStatic C n d).before args s = true) (hx : (Cond.exactly (Term.static C n d) K).value args s none s [] = some true) :
    ∃ a, (Term.static C n d).eval args s none [] s = some (.ref a) ∧ Sta s s.heap C n d (.ref a) ∧ Exa s s.heap a K := by
  obtain ⟨a, ev⟩ := exa_v hx
  exact ⟨a, ev, Sta.start ev (Or.inr ⟨wi, wl⟩), Exa.start ev hx⟩
theorem fld_int {args : Array Value} {s : State} {t : Term} {a : Addr} {O f d : String} {i : Int32} (ev : t.eval args s none [] s = some (.ref a)) (hq : (Cond.eq (Term.field t O f d) (Term.int i)).value args s none s [] = some true) : Fld s s.heap a O f d (.int i) := by
  refine Fld.start ?_
  obtain ⟨x, y, h1, h2, k1, k2⟩ := cmp_v (Or.inl hq)
  cases (show some (Value.int i) = some y from h2)
  obtain ⟨z, rfl⟩ := k2
  have q := gotT (show (Cond.eq (Term.field t O f d) (Term.int i)).value args s none s [] = some (decide (z = i)) by simp [Cond.value, h1, h2]) hq
  subst q
  rw [fld_at ev] at h1; exact h1
theorem fld_uniq {Z : State} {h : Heap} {a : Addr} {O f d : String} {v w : Value} (F : Fld Z h a O f d v) (G : Fld Z h a O f d w) : v = w := by
  obtain ⟨c1, cf, k, i, fd, h1, h2, -, -, -, -, h7⟩ := F
  obtain ⟨c2, cf', k', i', fd', g1, g2, -, -, -, -, g7⟩ := G
  cases h1.symm.trans g1
  cases h2.symm.trans g2
  exact Option.some.inj (h7.symm.trans g7)
theorem ne_fld {Z : State} {h : Heap} {a b : Addr} {O f d : String} {v w : Value} (F : Fld Z h a O f d v) (G : Fld Z h b O f d w) (q : v ≠ w) : a ≠ b := fun e => by
  subst e; exact q (fld_uniq F G)
theorem mod_range (p k : Int32) (d : Int) (hd : k.toInt = d) (h0 : 0 < d) : 0 ≤ ((p &&& 2147483647) % k).toInt ∧ ((p &&& 2147483647) % k).toInt < d := by
  have h1 := (c_andS p 2147483647).2.2 (by decide)
  have h2 := (c_irem (p &&& 2147483647) k d hd).1 h1
  rw [h2]
  exact ⟨Int.emod_nonneg _ (by omega), Int.emod_lt_of_pos _ h0⟩
theorem mod6 (p : Int32) : (p &&& 2147483647) % 6 = 0 ∨ (p &&& 2147483647) % 6 = 1 ∨ (p &&& 2147483647) % 6 = 2 ∨ (p &&& 2147483647) % 6 = 3 ∨ (p &&& 2147483647) % 6 = 4 ∨ (p &&& 2147483647) % 6 = 5 := by
  have h := mod_range p 6 6 (by decide) (by decide)
  generalize (p &&& 2147483647) % 6 = r at h ⊢
  have q : r.toInt = 0 ∨ r.toInt = 1 ∨ r.toInt = 2 ∨ r.toInt = 3 ∨ r.toInt = 4 ∨ r.toInt = 5 := by omega
  rcases q with q | q | q | q | q | q
  · exact Or.inl (Int32.toInt_inj.mp q)
  · exact Or.inr (Or.inl (Int32.toInt_inj.mp q))
  · exact Or.inr (Or.inr (Or.inl (Int32.toInt_inj.mp q)))
  · exact Or.inr (Or.inr (Or.inr (Or.inl (Int32.toInt_inj.mp q))))
  · exact Or.inr (Or.inr (Or.inr (Or.inr (Or.inl (Int32.toInt_inj.mp q)))))
  · exact Or.inr (Or.inr (Or.inr (Or.inr (Or.inr (Int32.toInt_inj.mp q)))))
theorem mod3 (p : Int32) : (p &&& 2147483647) % 3 = 0 ∨ (p &&& 2147483647) % 3 = 1 ∨ (p &&& 2147483647) % 3 = 2 := by
  have h := mod_range p 3 3 (by decide) (by decide)
  generalize (p &&& 2147483647) % 3 = r at h ⊢
  have q : r.toInt = 0 ∨ r.toInt = 1 ∨ r.toInt = 2 := by omega
  rcases q with q | q | q
  · exact Or.inl (Int32.toInt_inj.mp q)
  · exact Or.inr (Or.inl (Int32.toInt_inj.mp q))
  · exact Or.inr (Or.inr (Int32.toInt_inj.mp q))
end Jvm.Own
namespace Jvm.Own
open Jvm Jvm.ClassFile Sem Op Lib Jvm.Free Jvm.Stand Jvm.LawKit Jvm.RoadKit
/-! an array by what it holds at each place -/
def up {α : Type} (f : Nat → α) (i : Nat) (v : α) : Nat → α := fun k => if k = i then v else f k
theorem up_eq {α : Type} {f : Nat → α} {i k : Nat} {v : α} (q : k = i) : up f i v k = v := by simp [up, q]
theorem up_ne {α : Type} {f : Nat → α} {i k : Nat} {v : α} (q : k ≠ i) : up f i v k = f k := by simp [up, q]
def Fa (Z : State) (h : Heap) (a : Addr) (ty : FieldType) (n : Nat) (f : Nat → Value) : Prop :=
  ∃ c : Cell, Arr Z h a c ty ∧ c.slots.size = n ∧ n < 2 ^ 31 ∧ ∀ i, i < n → c.slots[i]? = some (f i)
/-- .. of objects of the class K -/
def FaO (Z : State) (h : Heap) (a : Addr) (K : String) (n : Nat) (f : Nat → Value) : Prop :=
  ∃ c : Cell, Arr Z h a c (.object K) ∧ Ovr Z c.cls K ∧ c.slots.size = n ∧ n < 2 ^ 31 ∧ ∀ i, i < n → c.slots[i]? = some (f i)
/-- .. of arrays, whose class is named K -/
def FaA (Z : State) (h : Heap) (a : Addr) (ty : FieldType) (K : String) (n : Nat) (f : Nat → Value) : Prop :=
  ∃ c : Cell, Arr Z h a c (.array ty) ∧ OvrA Z c.cls ty K ∧ c.slots.size = n ∧ n < 2 ^ 31 ∧ ∀ i, i < n → c.slots[i]? = some (f i)
section Facts
variable {Z : State} {h h' : Heap} {a b : Addr} {ty : FieldType} {K : String} {n : Nat} {f g : Nat → Value} {sl : Nat} {v : Value} {ws : List Addr}
theorem inb {c : Cell} {j : Int32} (S : c.slots.size = n) (h0 : ¬ j < 0) (hi : j.toNatClampNeg < n) : ¬ (j < 0 ∨ c.slots.size ≤ j.toNatClampNeg) := by
  rintro (q | q)
  · exact h0 q
  · omega
theorem set_at {c : Cell} (S : c.slots.size = n) (H : ∀ i, i < n → c.slots[i]? = some (f i)) (hs : sl < n) : ∀ i, i < n → (c.setSlot sl v).slots[i]? = some (up f sl v i) := fun i hi => by
  by_cases q : i = sl
  · subst q; rw [up_eq rfl]; simp [Cell.setSlot, S, hi]
  · rw [up_ne q, ← H i hi]; exact Array.getElem?_setIfInBounds_ne (Ne.symm q)
theorem new_at {cA : ClassId} {z : Int32} : ∀ i, i < z.toNatClampNeg → (newA cA ty z).slots[i]? = some (defaultValue ty) := fun i hi => by simp [newA, hi]
theorem clamp_lt (z : Int32) : z.toNatClampNeg < 2 ^ 31 := by
  have := Int32.toInt_lt z; simp only [Int32.toNatClampNeg]; omega
theorem Fa.lt (F : Fa Z h a ty n f) : a < h.size := by obtain ⟨c, A, -⟩ := F; exact A.lt
theorem Fa.ext (F : Fa Z h a ty n f) (E : Ext h h') : Fa Z h' a ty n f := by obtain ⟨c, A, r⟩ := F; exact ⟨c, A.ext E, r⟩
theorem Fa.other (F : Fa Z h b ty n f) (W : Wr h h' a sl v) (q : b ≠ a) : Fa Z h' b ty n f := by obtain ⟨c, A, r⟩ := F; exact ⟨c, A.other W q, r⟩
theorem Fa.keep (F : Fa Z h a ty n f) (K : Keep h h' ws) (q : a ∉ ws) : Fa Z h' a ty n f := by obtain ⟨c, A, r⟩ := F; exact ⟨c, ⟨K.2.1 a c A.1 q, A.2⟩, r⟩
theorem Fa.set (F : Fa Z h a ty n f) (W : Wr h h' a sl v) (hs : sl < n) : Fa Z h' a ty n (up f sl v) := by
  obtain ⟨c, A, S, N, H⟩ := F; exact ⟨_, A.same W, (sz_set _ _ _).trans S, N, set_at S H hs⟩
theorem Fa.new {cA : ClassId} {z : Int32} (A : Arr Z h a (newA cA ty z) ty) : Fa Z h a ty z.toNatClampNeg (fun _ => defaultValue ty) := ⟨_, A, sz_new _ _ _, clamp_lt z, new_at⟩
theorem Fa.congr (F : Fa Z h a ty n f) (q : ∀ i, i < n → f i = g i) : Fa Z h a ty n g := by obtain ⟨c, A, S, N, H⟩ := F; exact ⟨c, A, S, N, fun i hi => (H i hi).trans (congrArg some (q i hi))⟩
theorem FaO.lt (F : FaO Z h a K n f) : a < h.size := by obtain ⟨c, A, -⟩ := F; exact A.lt
theorem FaO.ext (F : FaO Z h a K n f) (E : Ext h h') : FaO Z h' a K n f := by obtain ⟨c, A, r⟩ := F; exact ⟨c, A.ext E, r⟩
theorem FaO.other (F : FaO Z h b K n f) (W : Wr h h' a sl v) (q : b ≠ a) : FaO Z h' b K n f := by obtain ⟨c, A, r⟩ := F; exact ⟨c, A.other W q, r⟩
theorem FaO.set (F : FaO Z h a K n f) (W : Wr h h' a sl v) (hs : sl < n) : FaO Z h' a K n (up f sl v) := by
  obtain ⟨c, A, O, S, N, H⟩ := F; exact ⟨_, A.same W, O, (sz_set _ _ _).trans S, N, set_at S H hs⟩
theorem FaO.new {cA : ClassId} {z : Int32} (A : Arr Z h a (newA cA (.object K) z) (.object K)) (O : Ovr Z cA K) : FaO Z h a K z.toNatClampNeg (fun _ => .null) := ⟨_, A, O, sz_new _ _ _, clamp_lt z, new_at⟩
theorem FaO.sto (F : FaO Z h a K n f) {y : Addr} (E : Exa Z h y K) : Sto Z h a (.ref y) := by obtain ⟨c, A, O, -⟩ := F; exact Sto.of A O (Ins.self E)
theorem FaA.lt (F : FaA Z h a ty K n f) : a < h.size := by obtain ⟨c, A, -⟩ := F; exact A.lt
theorem FaA.ext (F : FaA Z h a ty K n f) (E : Ext h h') : FaA Z h' a ty K n f := by obtain ⟨c, A, r⟩ := F; exact ⟨c, A.ext E, r⟩
theorem FaA.other (F : FaA Z h b ty K n f) (W : Wr h h' a sl v) (q : b ≠ a) : FaA Z h' b ty K n f := by obtain ⟨c, A, r⟩ := F; exact ⟨c, A.other W q, r⟩
theorem FaA.keep (F : FaA Z h a ty K n f) (Kp : Keep h h' ws) (q : a ∉ ws) : FaA Z h' a ty K n f := by obtain ⟨c, A, r⟩ := F; exact ⟨c, ⟨Kp.2.1 a c A.1 q, A.2⟩, r⟩
theorem FaA.set (F : FaA Z h a ty K n f) (W : Wr h h' a sl v) (hs : sl < n) : FaA Z h' a ty K n (up f sl v) := by
  obtain ⟨c, A, O, S, N, H⟩ := F; exact ⟨_, A.same W, O, (sz_set _ _ _).trans S, N, set_at S H hs⟩
theorem FaA.new {cA : ClassId} {z : Int32} (A : Arr Z h a (newA cA (.array ty) z) (.array ty)) (O : OvrA Z cA ty K) : FaA Z h a ty K z.toNatClampNeg (fun _ => .null) := ⟨_, A, O, sz_new _ _ _, clamp_lt z, new_at⟩
end Facts
section Rules
variable {W : Bool} {Z : State} {p : Program} {l : Launch} {e : Env} {R : Room} {s : State} {m : MethodId} {args : Array Value} {below : List Frame} {meth : Method} {c : Code} {y : MethodName} {bytes : ByteArray} {maxL : Nat} {ret : Option FieldType} {n0 : Nat} {Q : Option Value → Heap → Prop} {h : Heap} {k n : Nat} {a0 : Array Value}
variable {a : Addr} {ty : FieldType} {K : String} {N : Nat} {f : Nat → Value} {j : Int32} {v : Value} {pc : Nat} {Ls : Array Slot} {st : List Value}
theorem Wk.fLen (C : Cx Z p s m meth c y bytes maxL ret) (F : Fa Z h a ty N f) {z : Int32} (hz : N.toInt32 = z) (hd : decode bytes pc = .ok (.arraylength, 1))
    (H : Wk W p l e R s m args below meth c n0 Q h k n (mkF m (pc + 1) Ls (.int z :: st))) : Wk W p l e R s m args below meth c n0 Q h k n (mkF m pc Ls (.ref a :: st)) := by
  obtain ⟨cl, A, S, -⟩ := F; exact Wk.len C A hd (by rw [S, hz]; exact H)
theorem Wk.fLenA (C : Cx Z p s m meth c y bytes maxL ret) (F : FaA Z h a ty K N f) {z : Int32} (hz : N.toInt32 = z) (hd : decode bytes pc = .ok (.arraylength, 1))
    (H : Wk W p l e R s m args below meth c n0 Q h k n (mkF m (pc + 1) Ls (.int z :: st))) : Wk W p l e R s m args below meth c n0 Q h k n (mkF m pc Ls (.ref a :: st)) := by
  obtain ⟨cl, A, -, S, -⟩ := F; exact Wk.len C A hd (by rw [S, hz]; exact H)
theorem Wk.fLdI (C : Cx Z p s m meth c y bytes maxL ret) (F : Fa Z h a .int N f) {i : Nat} (hj : j.toNatClampNeg = i) (h0 : ¬ j < 0) (hi : i < N) (hv : f i = v) (hd : decode bytes pc = .ok (.iaload, 1))
    (H : Wk W p l e R s m args below meth c n0 Q h k n (mkF m (pc + 1) Ls (v :: st))) : Wk W p l e R s m args below meth c n0 Q h k n (mkF m pc Ls (.int j :: .ref a :: st)) := by
  subst hj
  obtain ⟨cl, A, S, -, Hs⟩ := F; exact Wk.ldI C A (inb S h0 hi) (hv ▸ Hs _ hi) hd H
theorem Wk.fLdJ (C : Cx Z p s m meth c y bytes maxL ret) (F : Fa Z h a .long N f) {i : Nat} (hj : j.toNatClampNeg = i) (h0 : ¬ j < 0) (hi : i < N) (hv : f i = v) (hd : decode bytes pc = .ok (.laload, 1))
    (H : Wk W p l e R s m args below meth c n0 Q h k n (mkF m (pc + 1) Ls (v :: st))) : Wk W p l e R s m args below meth c n0 Q h k n (mkF m pc Ls (.int j :: .ref a :: st)) := by
  subst hj
  obtain ⟨cl, A, S, -, Hs⟩ := F; exact Wk.ldJ C A (inb S h0 hi) (hv ▸ Hs _ hi) hd H
theorem Wk.fLdZ (C : Cx Z p s m meth c y bytes maxL ret) (F : Fa Z h a .boolean N f) {i : Nat} (hj : j.toNatClampNeg = i) (h0 : ¬ j < 0) (hi : i < N) (hv : f i = v) (hd : decode bytes pc = .ok (.baload, 1))
    (H : Wk W p l e R s m args below meth c n0 Q h k n (mkF m (pc + 1) Ls (v :: st))) : Wk W p l e R s m args below meth c n0 Q h k n (mkF m pc Ls (.int j :: .ref a :: st)) := by
  subst hj
  obtain ⟨cl, A, S, -, Hs⟩ := F; exact Wk.ldZ C A (inb S h0 hi) (hv ▸ Hs _ hi) hd H
theorem Wk.fLdO (C : Cx Z p s m meth c y bytes maxL ret) (F : FaO Z h a K N f) {i : Nat} (hj : j.toNatClampNeg = i) (h0 : ¬ j < 0) (hi : i < N) (hv : f i = v) (hd : decode bytes pc = .ok (.aaload, 1))
    (H : Wk W p l e R s m args below meth c n0 Q h k n (mkF m (pc + 1) Ls (v :: st))) : Wk W p l e R s m args below meth c n0 Q h k n (mkF m pc Ls (.int j :: .ref a :: st)) := by
  subst hj
  obtain ⟨cl, A, -, S, -, Hs⟩ := F; exact Wk.ldR C A rfl (inb S h0 hi) (hv ▸ Hs _ hi) hd H
theorem Wk.fLdA (C : Cx Z p s m meth c y bytes maxL ret) (F : FaA Z h a ty K N f) {i : Nat} (hj : j.toNatClampNeg = i) (h0 : ¬ j < 0) (hi : i < N) (hv : f i = v) (hd : decode bytes pc = .ok (.aaload, 1))
    (H : Wk W p l e R s m args below meth c n0 Q h k n (mkF m (pc + 1) Ls (v :: st))) : Wk W p l e R s m args below meth c n0 Q h k n (mkF m pc Ls (.int j :: .ref a :: st)) := by
  subst hj
  obtain ⟨cl, A, -, S, -, Hs⟩ := F; exact Wk.ldR C A rfl (inb S h0 hi) (hv ▸ Hs _ hi) hd H
theorem Wk.fStI (C : Cx Z p s m meth c y bytes maxL ret) (F : Fa Z h a .int N f) {x : Int32} {i : Nat} (hj : j.toNatClampNeg = i) (h0 : ¬ j < 0) (hi : i < N) (ge : n0 ≤ a) (hd : decode bytes pc = .ok (.iastore, 1))
    (H : ∀ h', Wr h h' a i (.int x) → Fa Z h' a .int N (up f i (.int x)) → Wk W p l e R s m args below meth c n0 Q h' k n (mkF m (pc + 1) Ls st)) : Wk W p l e R s m args below meth c n0 Q h k n (mkF m pc Ls (.int x :: .int j :: .ref a :: st)) := by
  subst hj
  obtain ⟨cl, A, S, r⟩ := id F; exact Wk.stI C A (inb S h0 hi) ge hd fun h' Wh => H h' Wh (F.set Wh hi)
theorem Wk.fStJ (C : Cx Z p s m meth c y bytes maxL ret) (F : Fa Z h a .long N f) {x : Int64} {i : Nat} (hj : j.toNatClampNeg = i) (h0 : ¬ j < 0) (hi : i < N) (ge : n0 ≤ a) (hd : decode bytes pc = .ok (.lastore, 1))
    (H : ∀ h', Wr h h' a i (.long x) → Fa Z h' a .long N (up f i (.long x)) → Wk W p l e R s m args below meth c n0 Q h' k n (mkF m (pc + 1) Ls st)) : Wk W p l e R s m args below meth c n0 Q h k n (mkF m pc Ls (.long x :: .int j :: .ref a :: st)) := by
  subst hj
  obtain ⟨cl, A, S, r⟩ := id F; exact Wk.stJ C A (inb S h0 hi) ge hd fun h' Wh => H h' Wh (F.set Wh hi)
theorem Wk.fStZ (C : Cx Z p s m meth c y bytes maxL ret) (F : Fa Z h a .boolean N f) {x x' : Int32} (hx : nar .boolean x = x') {i : Nat} (hj : j.toNatClampNeg = i) (h0 : ¬ j < 0) (hi : i < N) (ge : n0 ≤ a) (hd : decode bytes pc = .ok (.bastore, 1))
    (H : ∀ h', Wr h h' a i (.int x') → Fa Z h' a .boolean N (up f i (.int x')) → Wk W p l e R s m args below meth c n0 Q h' k n (mkF m (pc + 1) Ls st)) : Wk W p l e R s m args below meth c n0 Q h k n (mkF m pc Ls (.int x :: .int j :: .ref a :: st)) := by
  subst hx
  subst hj
  obtain ⟨cl, A, S, r⟩ := id F; exact Wk.stZb C A (inb S h0 hi) ge hd fun h' Wh => H h' Wh (F.set Wh hi)
theorem Wk.fStB (C : Cx Z p s m meth c y bytes maxL ret) (F : Fa Z h a .byte N f) {x x' : Int32} (hx : nar .byte x = x') {i : Nat} (hj : j.toNatClampNeg = i) (h0 : ¬ j < 0) (hi : i < N) (ge : n0 ≤ a) (hd : decode bytes pc = .ok (.bastore, 1))
    (H : ∀ h', Wr h h' a i (.int x') → Fa Z h' a .byte N (up f i (.int x')) → Wk W p l e R s m args below meth c n0 Q h' k n (mkF m (pc + 1) Ls st)) : Wk W p l e R s m args below meth c n0 Q h k n (mkF m pc Ls (.int x :: .int j :: .ref a :: st)) := by
  subst hx
  subst hj
  obtain ⟨cl, A, S, r⟩ := id F; exact Wk.stB C A (inb S h0 hi) ge hd fun h' Wh => H h' Wh (F.set Wh hi)
theorem Wk.fStC (C : Cx Z p s m meth c y bytes maxL ret) (F : Fa Z h a .char N f) {x x' : Int32} (hx : nar .char x = x') {i : Nat} (hj : j.toNatClampNeg = i) (h0 : ¬ j < 0) (hi : i < N) (ge : n0 ≤ a) (hd : decode bytes pc = .ok (.castore, 1))
    (H : ∀ h', Wr h h' a i (.int x') → Fa Z h' a .char N (up f i (.int x')) → Wk W p l e R s m args below meth c n0 Q h' k n (mkF m (pc + 1) Ls st)) : Wk W p l e R s m args below meth c n0 Q h k n (mkF m pc Ls (.int x :: .int j :: .ref a :: st)) := by
  subst hx
  subst hj
  obtain ⟨cl, A, S, r⟩ := id F; exact Wk.stC C A (inb S h0 hi) ge hd fun h' Wh => H h' Wh (F.set Wh hi)
theorem Wk.fStO (C : Cx Z p s m meth c y bytes maxL ret) (F : FaO Z h a K N f) {i : Nat} (hj : j.toNatClampNeg = i) (h0 : ¬ j < 0) (hi : i < N) (So : Sto Z h a v) (ge : n0 ≤ a) (hd : decode bytes pc = .ok (.aastore, 1))
    (H : ∀ h', Wr h h' a i v → FaO Z h' a K N (up f i v) → Wk W p l e R s m args below meth c n0 Q h' k n (mkF m (pc + 1) Ls st)) : Wk W p l e R s m args below meth c n0 Q h k n (mkF m pc Ls (v :: .int j :: .ref a :: st)) := by
  subst hj
  obtain ⟨cl, A, O, S, r⟩ := id F; exact Wk.stR C A (inb S h0 hi) rfl So ge hd fun h' Wh => H h' Wh (F.set Wh hi)
theorem Wk.fStA (C : Cx Z p s m meth c y bytes maxL ret) (F : FaA Z h a ty K N f) {i : Nat} (hj : j.toNatClampNeg = i) (h0 : ¬ j < 0) (hi : i < N) (So : Sto Z h a v) (ge : n0 ≤ a) (hd : decode bytes pc = .ok (.aastore, 1))
    (H : ∀ h', Wr h h' a i v → FaA Z h' a ty K N (up f i v) → Wk W p l e R s m args below meth c n0 Q h' k n (mkF m (pc + 1) Ls st)) : Wk W p l e R s m args below meth c n0 Q h k n (mkF m pc Ls (v :: .int j :: .ref a :: st)) := by
  subst hj
  obtain ⟨cl, A, O, S, r⟩ := id F; exact Wk.stR C A (inb S h0 hi) rfl So ge hd fun h' Wh => H h' Wh (F.set Wh hi)
theorem Wk.fNewP (C : Cx Z p s m meth c y bytes maxL ret) {aty : ArrayType} (w : (Cond.arrayClass (newarray.typeOf aty)).before a0 Z = true) {z : Int32} {dv : Value} {ad : String} (hty : newarray.typeOf aty = ty) (hdv : defaultValue ty = dv) (hN : z.toNatClampNeg = N) (had : "[" ++ (newarray.typeOf aty).toString = ad) (hz : ¬ z < 0) {cap : Nat} (hcap : N ≤ cap) (hbig : cap * 8 ≤ 536870912) (hd : decode bytes pc = .ok (.newarray aty, 2)) (hc : k + 1 ≤ R.cells) (hl : n + cap ≤ R.slots)
    (H : ∀ h' a, a = h.size → Ext h h' → Exa Z h' a ad → Fa Z h' a ty N (fun _ => dv) → Wk W p l e R s m args below meth c n0 Q h' (k + 1) (n + cap) (mkF m (pc + 2) Ls (.ref a :: st))) :
    Wk W p l e R s m args below meth c n0 Q h k n (mkF m pc Ls (.int z :: st)) := by
  intro T L vm0 X B eT Nn
  subst hty hdv hN
  obtain ⟨T', h', cA, X', e', E, A, Ex, st⟩ := Jvm.RoadKit.newPE X C.hx (C.wZ B) w eT (g := mkF m pc Ls (.int z :: st)) rfl (hb C.hby hd) rfl hz hcap hbig hc hl had
  obtain ⟨s₂, o, h1, h2⟩ := H h' _ rfl E Ex (Fa.new A) T' L vm0 X' (B.mono E.1) e' Nn
  exact ⟨s₂, o, st _ h1, h2⟩
theorem Wk.fNewA (C : Cx Z p s m meth c y bytes maxL ret) {index : Nat} {z : Int32} {ad : String} (hK : (FieldType.array ty).toString = K) (w1 : (Cond.classLink y.cls index K).before a0 Z = true) (w2 : (Cond.arrayOver (.array ty)).before a0 Z = true) (hN : z.toNatClampNeg = N) (had : "[" ++ K = ad) (hz : ¬ z < 0) {cap : Nat} (hcap : N ≤ cap) (hbig : cap * 8 ≤ 536870912) (hd : decode bytes pc = .ok (.anewarray index, 3)) (hc : k + 1 ≤ R.cells) (hl : n + cap ≤ R.slots)
    (H : ∀ h' a, a = h.size → Ext h h' → Exa Z h' a ad → FaA Z h' a ty K N (fun _ => .null) → Wk W p l e R s m args below meth c n0 Q h' (k + 1) (n + cap) (mkF m (pc + 3) Ls (.ref a :: st))) :
    Wk W p l e R s m args below meth c n0 Q h k n (mkF m pc Ls (.int z :: st)) := by
  intro T L vm0 X B eT Nn
  subst hN
  obtain ⟨T', h', cA, X', e', E, A, Ex, O, st⟩ := Jvm.RoadKit.newRA X C.hx (C.wZ B) (C.wo B) hK w1 w2 eT (g := mkF m pc Ls (.int z :: st)) rfl (hb C.hby hd) rfl hz hcap hbig hc hl had
  obtain ⟨s₂, o, h1, h2⟩ := H h' _ rfl E Ex (FaA.new A O) T' L vm0 X' (B.mono E.1) e' Nn
  exact ⟨s₂, o, st _ h1, h2⟩
theorem Wk.fNewO (C : Cx Z p s m meth c y bytes maxL ret) {index : Nat} {z : Int32} (w1 : (Cond.classLink y.cls index K).before a0 Z = true) (w2 : (Cond.arrayOver (.object K)).before a0 Z = true) (hN : z.toNatClampNeg = N) (hz : ¬ z < 0) {cap : Nat} (hcap : N ≤ cap) (hbig : cap * 8 ≤ 536870912) (hd : decode bytes pc = .ok (.anewarray index, 3)) (hc : k + 1 ≤ R.cells) (hl : n + cap ≤ R.slots)
    (H : ∀ h' a, a = h.size → Ext h h' → FaO Z h' a K N (fun _ => .null) → Wk W p l e R s m args below meth c n0 Q h' (k + 1) (n + cap) (mkF m (pc + 3) Ls (.ref a :: st))) :
    Wk W p l e R s m args below meth c n0 Q h k n (mkF m pc Ls (.int z :: st)) := by
  subst hN
  exact Wk.newR C w1 w2 hz hcap hbig hd hc hl fun h' a cA g E A O => H h' a g E (FaO.new A O)
theorem FaA.sto {f : Nat → Value} (F : FaA Z h a ty K N f) {b : Addr} (E : Exa Z h b K) : Sto Z h a (.ref b) := by obtain ⟨c, A, O, -⟩ := F; exact Sto.ofVA A rfl O (Ins.self E)
end Rules
end Jvm.Own
namespace Jvm.Own
theorem nm0 {a : Nat} : a ∉ ([] : List Nat) := by simp
theorem nmS {a b : Nat} {ws : List Nat} (h : a ≠ b) (t : a ∉ ws) : a ∉ b :: ws := by simp [h, t]
theorem nv0 {P : Nat → Prop} : ∀ x ∈ ([] : List Nat), P x := fun _ q => nomatch q
theorem nvS {P : Nat → Prop} {b : Nat} {ws : List Nat} (h : P b) (t : ∀ x ∈ ws, P x) : ∀ x ∈ b :: ws, P x := fun x q => (List.mem_cons.mp q).elim (fun e => e ▸ h) (t x)
end Jvm.Own
namespace Jvm.Own
open Jvm Jvm.ClassFile Sem Op Lib Jvm.Free Jvm.Stand Jvm.LawKit Jvm.RoadKit
theorem dupX2 {tb : Tables} [Ours tb] {e : Env} {below : List Frame} {T target : State} {m : MethodId} {c : Code} {g : JFrame} (h : At T m c below) (hx : tb.exec = Jvm.exec) (hg : g.method = m) {x y z : Value} {rest : List Value} (hd : decode c.code g.pc = .ok (.dup_x2, 1)) (hs : g.stack = x :: y :: z :: rest) (hc : x.category = 1) (hc2 : y.category = 1) (hc3 : z.category = 1)
    (hr : Steps tb e below (T.setTop { g with pc := g.pc + 1, stack := x :: y :: z :: x :: rest }) target) : Steps tb e below (T.setTop g) target := by
  subst hg
  jvm_step h [h.top, hx, hd, hs, hc, hc2, hc3, dup_x2.wp_sem]
  exact hr
end Jvm.Own
namespace Jvm.Pilot.@@N@@
open Jvm Jvm.ClassFile Sem Op Lib Jvm.Free Jvm.Stand Jvm.LawKit Jvm.RoadKit Bundle Jvm.Own Jvm.Pilot.@@N@@.Jvm.D
theorem pn_0 : plainName "com/example/torino/torino/IntBlocks" = true := by first | (simp [plainName, overriddenIn]; done) | decide +kernel
theorem pn_1 : plainName "com/example/torino/torino/IntBlocksGetPinLaw" = true := by first | (simp [plainName, overriddenIn]; done) | decide +kernel
theorem pn_2 : plainName "com/example/torino/torino/ArrayLengths" = true := by first | (simp [plainName, overriddenIn]; done) | decide +kernel
theorem pd_0 : parseMethodDescriptor "()V" = some ⟨[], none⟩ := by decide +kernel
theorem pd_1 : parseMethodDescriptor "(JLjava/lang/String;)V" = some ⟨[.long, (.object "java/lang/String")], none⟩ := by decide +kernel
theorem pd_2 : parseMethodDescriptor "(II)V" = some ⟨[.int, .int], none⟩ := by decide +kernel
theorem pd_3 : parseMethodDescriptor "(I)I" = some ⟨[.int], some .int⟩ := by decide +kernel
theorem pd_4 : parseMethodDescriptor "(IIIII)I" = some ⟨[.int, .int, .int, .int, .int], some .int⟩ := by decide +kernel
def Blk (Z : State) (h : Heap) (o bl b0 b1 b2 b3 : Addr) (F : Nat → Int32) : Prop := Exa Z h o "com/example/torino/torino/IntBlocks" ∧ Fld Z h o "com/example/torino/torino/IntBlocks" "blocks" "[[I" (.ref bl) ∧ FaA Z h bl .int "[I" 16 (up (up (up (up (fun _ => .null) 0 (.ref b0)) 1 (.ref b1)) 2 (.ref b2)) 3 (.ref b3)) ∧ Fa Z h b0 .int 4096 (fun i => (.int (F (0 + i)))) ∧ Fa Z h b1 .int 4096 (fun i => (.int (F (4096 + i)))) ∧ Fa Z h b2 .int 4096 (fun i => (.int (F (8192 + i)))) ∧ Fa Z h b3 .int 4096 (fun i => (.int (F (12288 + i))))
def Dis (o bl b0 b1 b2 b3 : Addr) : Prop := o ≠ b0 ∧ bl ≠ b0 ∧ b1 ≠ b0 ∧ b2 ≠ b0 ∧ b3 ≠ b0 ∧ o ≠ b1 ∧ bl ≠ b1 ∧ b0 ≠ b1 ∧ b2 ≠ b1 ∧ b3 ≠ b1 ∧ o ≠ b2 ∧ bl ≠ b2 ∧ b0 ≠ b2 ∧ b1 ≠ b2 ∧ b3 ≠ b2 ∧ o ≠ b3 ∧ bl ≠ b3 ∧ b0 ≠ b3 ∧ b1 ≠ b3 ∧ b2 ≠ b3
theorem up_hit {F : Nat → Int32} {B X lo : Nat} {v : Int32} (e : X = B + lo) : ∀ i, up (fun i => Value.int (F (B + i))) lo (.int v) i = .int (up F X v (B + i)) := by
  intro i; simp only [up]; by_cases q : i = lo
  · simp [q, e]
  · have : ¬ B + i = X := by omega
    simp [q, this]
theorem up_miss {F : Nat → Int32} {B X : Nat} {v : Int32} {i : Nat} (e : B + i ≠ X) : Value.int (F (B + i)) = .int (up F X v (B + i)) := by simp [up, e]
theorem lo_nn (x : Int32) : ¬ (x &&& (4095 : Int32)) < 0 := by rw [XT.negI32]; have := c_mask x 4095 12 (by decide) (by decide); omega
theorem lo_lt (x : Int32) : (x &&& (4095 : Int32)).toNatClampNeg < 4096 := by have := c_mask x 4095 12 (by decide) (by decide); simp only [Int32.toNatClampNeg]; omega
theorem hi_q (x : Int32) (h0 : 0 ≤ x.toInt) (h1 : x.toInt < 16384) : (((x.toUInt32 >>> ((12 : Int32) &&& 31).toUInt32).toInt32) = (0 : Int32) ∧ x.toNatClampNeg = 0 + (x &&& (4095 : Int32)).toNatClampNeg) ∨ (((x.toUInt32 >>> ((12 : Int32) &&& 31).toUInt32).toInt32) = (1 : Int32) ∧ x.toNatClampNeg = 4096 + (x &&& (4095 : Int32)).toNatClampNeg) ∨ (((x.toUInt32 >>> ((12 : Int32) &&& 31).toUInt32).toInt32) = (2 : Int32) ∧ x.toNatClampNeg = 8192 + (x &&& (4095 : Int32)).toNatClampNeg) ∨ (((x.toUInt32 >>> ((12 : Int32) &&& 31).toUInt32).toInt32) = (3 : Int32) ∧ x.toNatClampNeg = 12288 + (x &&& (4095 : Int32)).toNatClampNeg) := by
  have e1 := c_iushr x 12 12 (by decide) (by decide)
  have e2 := c_mask x 4095 12 (by decide) (by decide)
  generalize ((x.toUInt32 >>> ((12 : Int32) &&& 31).toUInt32).toInt32) = r at e1 ⊢
  generalize (x &&& (4095 : Int32)) = t at e2 ⊢
  simp only [Int32.toNatClampNeg]
  have q : r.toInt = 0 ∨ r.toInt = 1 ∨ r.toInt = 2 ∨ r.toInt = 3 := by omega
  rcases q with q | q | q | q
  · exact Or.inl ⟨Int32.toInt_inj.mp q, by omega⟩
  · exact Or.inr (Or.inl ⟨Int32.toInt_inj.mp q, by omega⟩)
  · exact Or.inr (Or.inr (Or.inl ⟨Int32.toInt_inj.mp q, by omega⟩))
  · exact Or.inr (Or.inr (Or.inr (⟨Int32.toInt_inj.mp q, by omega⟩)))
theorem nat_ne {x y : Int32} (hx : 0 ≤ x.toInt) (hy : 0 ≤ y.toInt) (h : ¬ x = y) : x.toNatClampNeg ≠ y.toNatClampNeg := fun q => h (Int32.toInt_inj.mp (by simp only [Int32.toNatClampNeg] at q; omega))
theorem m_range (p : Int32) : 0 ≤ (p &&& (16383 : Int32)).toInt ∧ (p &&& (16383 : Int32)).toInt < 16384 := by have := c_mask p 16383 14 (by decide) (by decide); omega
theorem own_wS {a0 : Array Value} {Z : State} (hw : ∀ d ∈ tables_1, d.before a0 Z = true) : ∀ d ∈ Bundle.stringAtoms, d.before a0 Z = true := by
  intro d hd
  simp only [Bundle.stringAtoms, List.mem_cons, List.not_mem_nil, or_false] at hd
  rcases hd with rfl | rfl | rfl | rfl | rfl | rfl | rfl
  · exact (hw _ (List.mem_of_getElem? (i := 19) rfl))
  · exact (hw _ (List.mem_of_getElem? (i := 20) rfl))
  · exact (hw _ (List.mem_of_getElem? (i := 21) rfl))
  · exact (hw _ (List.mem_of_getElem? (i := 22) rfl))
  · exact (hw _ (List.mem_of_getElem? (i := 23) rfl))
  · exact (hw _ (List.mem_of_getElem? (i := 24) rfl))
  · exact (hw _ (List.mem_of_getElem? (i := 25) rfl))
theorem get_exp {k i j a b : Int32} (hk : 0 ≤ k.toInt) (hi : 0 ≤ i.toInt) (hj : 0 ≤ j.toInt) : (up (up (fun _ => (0 : Int32)) i.toNatClampNeg a) j.toNatClampNeg b k.toNatClampNeg) = (if k = j then b else if k = i then a else (0 : Int32)) := by
  simp only [up]
  by_cases q : k = j
  · simp [q]
  · have n1 := nat_ne hk hj q
    by_cases r : k = i
    · subst r; simp [q, n1]
    · have n2 := nat_ne hk hi r
      simp [q, r, n1, n2]
theorem d5_0 : decode prog_11_method_3_code 0 = .ok (.aload_n 0, 1) := by decide +kernel
theorem d5_1 : decode prog_11_method_3_code 1 = .ok (.getfield 11, 3) := by decide +kernel
theorem d5_4 : decode prog_11_method_3_code 4 = .ok (.iload_n 1, 1) := by decide +kernel
theorem d5_5 : decode prog_11_method_3_code 5 = .ok (.bipush 12, 2) := by decide +kernel
theorem d5_7 : decode prog_11_method_3_code 7 = .ok (.iushr, 1) := by decide +kernel
theorem d5_8 : decode prog_11_method_3_code 8 = .ok (.aaload, 1) := by decide +kernel
theorem d5_9 : decode prog_11_method_3_code 9 = .ok (.iload_n 1, 1) := by decide +kernel
theorem d5_10 : decode prog_11_method_3_code 10 = .ok (.sipush 4095, 3) := by decide +kernel
theorem d5_13 : decode prog_11_method_3_code 13 = .ok (.iand, 1) := by decide +kernel
theorem d5_14 : decode prog_11_method_3_code 14 = .ok (.iload_n 2, 1) := by decide +kernel
theorem d5_15 : decode prog_11_method_3_code 15 = .ok (.iastore, 1) := by decide +kernel
theorem d5_16 : decode prog_11_method_3_code 16 = .ok (.return_, 1) := by decide +kernel
set_option maxRecDepth 65536 in
set_option maxHeartbeats 40000000 in
theorem own_set (l : Launch) (Z : State) (a0 : Array Value) (hw : ∀ d ∈ tables_1, d.before a0 Z = true) (n0 : Nat) (h0 : Heap) (o bl b0 b1 b2 b3 : Addr) (F : Nat → Int32) (x : Int32) (hx0 : 0 ≤ x.toInt) (hx1 : x.toInt < 16384) (BK : Blk Z h0 o bl b0 b1 b2 b3 F) (v : Int32) (DS : Dis o bl b0 b1 b2 b3) (G0 : n0 ≤ b0) (G1 : n0 ≤ b1) (G2 : n0 ≤ b2) (G3 : n0 ≤ b3) :
    Met true l Z n0 (⟨"com/example/torino/torino/IntBlocks", "set", "(II)V"⟩ : MethodName) prog_11_method_3_code 3 none ({ frames := 0, cells := 0, slots := 0, locals := 0 } : Room) #[(.ref o), (.int x), (.int v)] h0 (fun r h => r = none ∧ Blk Z h o bl b0 b1 b2 b3 (up F x.toNatClampNeg v)) := by
  refine Met.of pn_0 #[.val (.ref o), .val (.int x), .val (.int v)] (fun m => by first | (simp [entryFrame, mkF, argsToLocals, Value.category]; done) | rfl) ?_
  intro p e s m below meth c C
  refine Wk.st (g' := (mkF m 1 #[.val (.ref o), .val (.int x), .val (.int v)] [(.ref o)])) (fun X t q => XS.aloadN X.here C.hx rfl (hb C.hby d5_0) rfl rfl q) ?_
  refine Wk.getF C (hw _ (List.mem_of_getElem? (i := 11) rfl)) Via.refl BK.2.1 d5_1 ?_
  show Wk _ p l e _ s m _ below meth c n0 _ h0 0 0 (mkF m 4 #[.val (.ref o), .val (.int x), .val (.int v)] [(.ref bl)])
  refine Wk.st (g' := (mkF m 5 #[.val (.ref o), .val (.int x), .val (.int v)] [(.int x), (.ref bl)])) (fun X t q => XS.iloadN X.here C.hx rfl (hb C.hby d5_4) rfl q) ?_
  refine Wk.st (g' := (mkF m 7 #[.val (.ref o), .val (.int x), .val (.int v)] [(.int (12 : Int32)), (.int x), (.ref bl)])) (fun X t q => XS.bipush X.here C.hx rfl (hb C.hby d5_5) q) ?_
  refine Wk.st (g' := (mkF m 8 #[.val (.ref o), .val (.int x), .val (.int v)] [(.int ((x.toUInt32 >>> ((12 : Int32) &&& 31).toUInt32).toInt32)), (.ref bl)])) (fun X t q => XS.iushr X.here C.hx rfl (hb C.hby d5_7) rfl q) ?_
  rcases hi_q x hx0 hx1 with ⟨hq, he⟩ | ⟨hq, he⟩ | ⟨hq, he⟩ | ⟨hq, he⟩ <;> rw [hq]
  · skip
    show Wk _ p l e _ s m _ below meth c n0 _ h0 0 0 (mkF m 8 #[.val (.ref o), .val (.int x), .val (.int v)] [(.int (0 : Int32)), (.ref bl)])
    refine Wk.fLdA C BK.2.2.1 (i := 0) (by decide) (by decide) (by decide) (v := (.ref b0)) (by simp [up]) d5_8 ?_
    show Wk _ p l e _ s m _ below meth c n0 _ h0 0 0 (mkF m 9 #[.val (.ref o), .val (.int x), .val (.int v)] [(.ref b0)])
    refine Wk.st (g' := (mkF m 10 #[.val (.ref o), .val (.int x), .val (.int v)] [(.int x), (.ref b0)])) (fun X t q => XS.iloadN X.here C.hx rfl (hb C.hby d5_9) rfl q) ?_
    refine Wk.st (g' := (mkF m 13 #[.val (.ref o), .val (.int x), .val (.int v)] [(.int (4095 : Int32)), (.int x), (.ref b0)])) (fun X t q => XS.sipush X.here C.hx rfl (hb C.hby d5_10) q) ?_
    refine Wk.st (g' := (mkF m 14 #[.val (.ref o), .val (.int x), .val (.int v)] [(.int (x &&& (4095 : Int32))), (.ref b0)])) (fun X t q => XS.iand X.here C.hx rfl (hb C.hby d5_13) rfl q) ?_
    refine Wk.st (g' := (mkF m 15 #[.val (.ref o), .val (.int x), .val (.int v)] [(.int v), (.int (x &&& (4095 : Int32))), (.ref b0)])) (fun X t q => XS.iloadN X.here C.hx rfl (hb C.hby d5_14) rfl q) ?_
    refine Wk.fStI C BK.2.2.2.1 rfl (lo_nn x) (lo_lt x) G0 d5_15 ?_
    intro h1 W2 F3
    have F4 : Exa Z h1 o "com/example/torino/torino/IntBlocks" := BK.1.wr W2
    have F5 : Fld Z h1 o "com/example/torino/torino/IntBlocks" "blocks" "[[I" (.ref bl) := BK.2.1.other W2 (Or.inl DS.1)
    have F6 : FaA Z h1 bl .int "[I" 16 (up (up (up (up (fun _ => .null) 0 (.ref b0)) 1 (.ref b1)) 2 (.ref b2)) 3 (.ref b3)) := BK.2.2.1.other W2 DS.2.1
    have F7 : Fa Z h1 b1 .int 4096 (fun i => (.int (F (4096 + i)))) := BK.2.2.2.2.1.other W2 DS.2.2.1
    have F8 : Fa Z h1 b2 .int 4096 (fun i => (.int (F (8192 + i)))) := BK.2.2.2.2.2.1.other W2 DS.2.2.2.1
    have F9 : Fa Z h1 b3 .int 4096 (fun i => (.int (F (12288 + i)))) := BK.2.2.2.2.2.2.other W2 DS.2.2.2.2.1
    show Wk _ p l e _ s m _ below meth c n0 _ h1 0 0 (mkF m 16 #[.val (.ref o), .val (.int x), .val (.int v)] [])
    exact Wk.retN0 C rfl d5_16 (by decide) (by decide) ⟨rfl, F4, F5, F6, F3.congr (fun i hi => up_hit he i), F7.congr (fun i hi => up_miss (by have := lo_lt x; omega)), F8.congr (fun i hi => up_miss (by have := lo_lt x; omega)), F9.congr (fun i hi => up_miss (by have := lo_lt x; omega))⟩
  · skip
    show Wk _ p l e _ s m _ below meth c n0 _ h0 0 0 (mkF m 8 #[.val (.ref o), .val (.int x), .val (.int v)] [(.int (1 : Int32)), (.ref bl)])
    refine Wk.fLdA C BK.2.2.1 (i := 1) (by decide) (by decide) (by decide) (v := (.ref b1)) (by simp [up]) d5_8 ?_
    show Wk _ p l e _ s m _ below meth c n0 _ h0 0 0 (mkF m 9 #[.val (.ref o), .val (.int x), .val (.int v)] [(.ref b1)])
    refine Wk.st (g' := (mkF m 10 #[.val (.ref o), .val (.int x), .val (.int v)] [(.int x), (.ref b1)])) (fun X t q => XS.iloadN X.here C.hx rfl (hb C.hby d5_9) rfl q) ?_
    refine Wk.st (g' := (mkF m 13 #[.val (.ref o), .val (.int x), .val (.int v)] [(.int (4095 : Int32)), (.int x), (.ref b1)])) (fun X t q => XS.sipush X.here C.hx rfl (hb C.hby d5_10) q) ?_
    refine Wk.st (g' := (mkF m 14 #[.val (.ref o), .val (.int x), .val (.int v)] [(.int (x &&& (4095 : Int32))), (.ref b1)])) (fun X t q => XS.iand X.here C.hx rfl (hb C.hby d5_13) rfl q) ?_
    refine Wk.st (g' := (mkF m 15 #[.val (.ref o), .val (.int x), .val (.int v)] [(.int v), (.int (x &&& (4095 : Int32))), (.ref b1)])) (fun X t q => XS.iloadN X.here C.hx rfl (hb C.hby d5_14) rfl q) ?_
    refine Wk.fStI C BK.2.2.2.2.1 rfl (lo_nn x) (lo_lt x) G1 d5_15 ?_
    intro h10 W11 F12
    have F13 : Exa Z h10 o "com/example/torino/torino/IntBlocks" := BK.1.wr W11
    have F14 : Fld Z h10 o "com/example/torino/torino/IntBlocks" "blocks" "[[I" (.ref bl) := BK.2.1.other W11 (Or.inl DS.2.2.2.2.2.1)
    have F15 : FaA Z h10 bl .int "[I" 16 (up (up (up (up (fun _ => .null) 0 (.ref b0)) 1 (.ref b1)) 2 (.ref b2)) 3 (.ref b3)) := BK.2.2.1.other W11 DS.2.2.2.2.2.2.1
    have F16 : Fa Z h10 b0 .int 4096 (fun i => (.int (F (0 + i)))) := BK.2.2.2.1.other W11 DS.2.2.2.2.2.2.2.1
    have F17 : Fa Z h10 b2 .int 4096 (fun i => (.int (F (8192 + i)))) := BK.2.2.2.2.2.1.other W11 DS.2.2.2.2.2.2.2.2.1
    have F18 : Fa Z h10 b3 .int 4096 (fun i => (.int (F (12288 + i)))) := BK.2.2.2.2.2.2.other W11 DS.2.2.2.2.2.2.2.2.2.1
    show Wk _ p l e _ s m _ below meth c n0 _ h10 0 0 (mkF m 16 #[.val (.ref o), .val (.int x), .val (.int v)] [])
    exact Wk.retN0 C rfl d5_16 (by decide) (by decide) ⟨rfl, F13, F14, F15, F16.congr (fun i hi => up_miss (by have := lo_lt x; omega)), F12.congr (fun i hi => up_hit he i), F17.congr (fun i hi => up_miss (by have := lo_lt x; omega)), F18.congr (fun i hi => up_miss (by have := lo_lt x; omega))⟩
  · skip
    show Wk _ p l e _ s m _ below meth c n0 _ h0 0 0 (mkF m 8 #[.val (.ref o), .val (.int x), .val (.int v)] [(.int (2 : Int32)), (.ref bl)])
    refine Wk.fLdA C BK.2.2.1 (i := 2) (by decide) (by decide) (by decide) (v := (.ref b2)) (by simp [up]) d5_8 ?_
    show Wk _ p l e _ s m _ below meth c n0 _ h0 0 0 (mkF m 9 #[.val (.ref o), .val (.int x), .val (.int v)] [(.ref b2)])
    refine Wk.st (g' := (mkF m 10 #[.val (.ref o), .val (.int x), .val (.int v)] [(.int x), (.ref b2)])) (fun X t q => XS.iloadN X.here C.hx rfl (hb C.hby d5_9) rfl q) ?_
    refine Wk.st (g' := (mkF m 13 #[.val (.ref o), .val (.int x), .val (.int v)] [(.int (4095 : Int32)), (.int x), (.ref b2)])) (fun X t q => XS.sipush X.here C.hx rfl (hb C.hby d5_10) q) ?_
    refine Wk.st (g' := (mkF m 14 #[.val (.ref o), .val (.int x), .val (.int v)] [(.int (x &&& (4095 : Int32))), (.ref b2)])) (fun X t q => XS.iand X.here C.hx rfl (hb C.hby d5_13) rfl q) ?_
    refine Wk.st (g' := (mkF m 15 #[.val (.ref o), .val (.int x), .val (.int v)] [(.int v), (.int (x &&& (4095 : Int32))), (.ref b2)])) (fun X t q => XS.iloadN X.here C.hx rfl (hb C.hby d5_14) rfl q) ?_
    refine Wk.fStI C BK.2.2.2.2.2.1 rfl (lo_nn x) (lo_lt x) G2 d5_15 ?_
    intro h19 W20 F21
    have F22 : Exa Z h19 o "com/example/torino/torino/IntBlocks" := BK.1.wr W20
    have F23 : Fld Z h19 o "com/example/torino/torino/IntBlocks" "blocks" "[[I" (.ref bl) := BK.2.1.other W20 (Or.inl DS.2.2.2.2.2.2.2.2.2.2.1)
    have F24 : FaA Z h19 bl .int "[I" 16 (up (up (up (up (fun _ => .null) 0 (.ref b0)) 1 (.ref b1)) 2 (.ref b2)) 3 (.ref b3)) := BK.2.2.1.other W20 DS.2.2.2.2.2.2.2.2.2.2.2.1
    have F25 : Fa Z h19 b0 .int 4096 (fun i => (.int (F (0 + i)))) := BK.2.2.2.1.other W20 DS.2.2.2.2.2.2.2.2.2.2.2.2.1
    have F26 : Fa Z h19 b1 .int 4096 (fun i => (.int (F (4096 + i)))) := BK.2.2.2.2.1.other W20 DS.2.2.2.2.2.2.2.2.2.2.2.2.2.1
    have F27 : Fa Z h19 b3 .int 4096 (fun i => (.int (F (12288 + i)))) := BK.2.2.2.2.2.2.other W20 DS.2.2.2.2.2.2.2.2.2.2.2.2.2.2.1
    show Wk _ p l e _ s m _ below meth c n0 _ h19 0 0 (mkF m 16 #[.val (.ref o), .val (.int x), .val (.int v)] [])
    exact Wk.retN0 C rfl d5_16 (by decide) (by decide) ⟨rfl, F22, F23, F24, F25.congr (fun i hi => up_miss (by have := lo_lt x; omega)), F26.congr (fun i hi => up_miss (by have := lo_lt x; omega)), F21.congr (fun i hi => up_hit he i), F27.congr (fun i hi => up_miss (by have := lo_lt x; omega))⟩
  · skip
    show Wk _ p l e _ s m _ below meth c n0 _ h0 0 0 (mkF m 8 #[.val (.ref o), .val (.int x), .val (.int v)] [(.int (3 : Int32)), (.ref bl)])
    refine Wk.fLdA C BK.2.2.1 (i := 3) (by decide) (by decide) (by decide) (v := (.ref b3)) (by simp [up]) d5_8 ?_
    show Wk _ p l e _ s m _ below meth c n0 _ h0 0 0 (mkF m 9 #[.val (.ref o), .val (.int x), .val (.int v)] [(.ref b3)])
    refine Wk.st (g' := (mkF m 10 #[.val (.ref o), .val (.int x), .val (.int v)] [(.int x), (.ref b3)])) (fun X t q => XS.iloadN X.here C.hx rfl (hb C.hby d5_9) rfl q) ?_
    refine Wk.st (g' := (mkF m 13 #[.val (.ref o), .val (.int x), .val (.int v)] [(.int (4095 : Int32)), (.int x), (.ref b3)])) (fun X t q => XS.sipush X.here C.hx rfl (hb C.hby d5_10) q) ?_
    refine Wk.st (g' := (mkF m 14 #[.val (.ref o), .val (.int x), .val (.int v)] [(.int (x &&& (4095 : Int32))), (.ref b3)])) (fun X t q => XS.iand X.here C.hx rfl (hb C.hby d5_13) rfl q) ?_
    refine Wk.st (g' := (mkF m 15 #[.val (.ref o), .val (.int x), .val (.int v)] [(.int v), (.int (x &&& (4095 : Int32))), (.ref b3)])) (fun X t q => XS.iloadN X.here C.hx rfl (hb C.hby d5_14) rfl q) ?_
    refine Wk.fStI C BK.2.2.2.2.2.2 rfl (lo_nn x) (lo_lt x) G3 d5_15 ?_
    intro h28 W29 F30
    have F31 : Exa Z h28 o "com/example/torino/torino/IntBlocks" := BK.1.wr W29
    have F32 : Fld Z h28 o "com/example/torino/torino/IntBlocks" "blocks" "[[I" (.ref bl) := BK.2.1.other W29 (Or.inl DS.2.2.2.2.2.2.2.2.2.2.2.2.2.2.2.1)
    have F33 : FaA Z h28 bl .int "[I" 16 (up (up (up (up (fun _ => .null) 0 (.ref b0)) 1 (.ref b1)) 2 (.ref b2)) 3 (.ref b3)) := BK.2.2.1.other W29 DS.2.2.2.2.2.2.2.2.2.2.2.2.2.2.2.2.1
    have F34 : Fa Z h28 b0 .int 4096 (fun i => (.int (F (0 + i)))) := BK.2.2.2.1.other W29 DS.2.2.2.2.2.2.2.2.2.2.2.2.2.2.2.2.2.1
    have F35 : Fa Z h28 b1 .int 4096 (fun i => (.int (F (4096 + i)))) := BK.2.2.2.2.1.other W29 DS.2.2.2.2.2.2.2.2.2.2.2.2.2.2.2.2.2.2.1
    have F36 : Fa Z h28 b2 .int 4096 (fun i => (.int (F (8192 + i)))) := BK.2.2.2.2.2.1.other W29 DS.2.2.2.2.2.2.2.2.2.2.2.2.2.2.2.2.2.2.2
    show Wk _ p l e _ s m _ below meth c n0 _ h28 0 0 (mkF m 16 #[.val (.ref o), .val (.int x), .val (.int v)] [])
    exact Wk.retN0 C rfl d5_16 (by decide) (by decide) ⟨rfl, F31, F32, F33, F34.congr (fun i hi => up_miss (by have := lo_lt x; omega)), F35.congr (fun i hi => up_miss (by have := lo_lt x; omega)), F36.congr (fun i hi => up_miss (by have := lo_lt x; omega)), F30.congr (fun i hi => up_hit he i)⟩
theorem d6_0 : decode prog_11_method_2_code 0 = .ok (.aload_n 0, 1) := by decide +kernel
theorem d6_1 : decode prog_11_method_2_code 1 = .ok (.getfield 11, 3) := by decide +kernel
theorem d6_4 : decode prog_11_method_2_code 4 = .ok (.iload_n 1, 1) := by decide +kernel
theorem d6_5 : decode prog_11_method_2_code 5 = .ok (.bipush 12, 2) := by decide +kernel
theorem d6_7 : decode prog_11_method_2_code 7 = .ok (.iushr, 1) := by decide +kernel
theorem d6_8 : decode prog_11_method_2_code 8 = .ok (.aaload, 1) := by decide +kernel
theorem d6_9 : decode prog_11_method_2_code 9 = .ok (.iload_n 1, 1) := by decide +kernel
theorem d6_10 : decode prog_11_method_2_code 10 = .ok (.sipush 4095, 3) := by decide +kernel
theorem d6_13 : decode prog_11_method_2_code 13 = .ok (.iand, 1) := by decide +kernel
theorem d6_14 : decode prog_11_method_2_code 14 = .ok (.iaload, 1) := by decide +kernel
theorem d6_15 : decode prog_11_method_2_code 15 = .ok (.ireturn, 1) := by decide +kernel
set_option maxRecDepth 65536 in
set_option maxHeartbeats 40000000 in
theorem own_get (l : Launch) (Z : State) (a0 : Array Value) (hw : ∀ d ∈ tables_1, d.before a0 Z = true) (n0 : Nat) (h0 : Heap) (o bl b0 b1 b2 b3 : Addr) (F : Nat → Int32) (x : Int32) (hx0 : 0 ≤ x.toInt) (hx1 : x.toInt < 16384) (BK : Blk Z h0 o bl b0 b1 b2 b3 F) :
    Met true l Z n0 (⟨"com/example/torino/torino/IntBlocks", "get", "(I)I"⟩ : MethodName) prog_11_method_2_code 2 (some .int) ({ frames := 0, cells := 0, slots := 0, locals := 0 } : Room) #[(.ref o), (.int x)] h0 (fun r h => r = some (.int (F x.toNatClampNeg)) ∧ h0 = h) := by
  refine Met.of pn_0 #[.val (.ref o), .val (.int x)] (fun m => by first | (simp [entryFrame, mkF, argsToLocals, Value.category]; done) | rfl) ?_
  intro p e s m below meth c C
  refine Wk.st (g' := (mkF m 1 #[.val (.ref o), .val (.int x)] [(.ref o)])) (fun X t q => XS.aloadN X.here C.hx rfl (hb C.hby d6_0) rfl rfl q) ?_
  refine Wk.getF C (hw _ (List.mem_of_getElem? (i := 11) rfl)) Via.refl BK.2.1 d6_1 ?_
  show Wk _ p l e _ s m _ below meth c n0 _ h0 0 0 (mkF m 4 #[.val (.ref o), .val (.int x)] [(.ref bl)])
  refine Wk.st (g' := (mkF m 5 #[.val (.ref o), .val (.int x)] [(.int x), (.ref bl)])) (fun X t q => XS.iloadN X.here C.hx rfl (hb C.hby d6_4) rfl q) ?_
  refine Wk.st (g' := (mkF m 7 #[.val (.ref o), .val (.int x)] [(.int (12 : Int32)), (.int x), (.ref bl)])) (fun X t q => XS.bipush X.here C.hx rfl (hb C.hby d6_5) q) ?_
  refine Wk.st (g' := (mkF m 8 #[.val (.ref o), .val (.int x)] [(.int ((x.toUInt32 >>> ((12 : Int32) &&& 31).toUInt32).toInt32)), (.ref bl)])) (fun X t q => XS.iushr X.here C.hx rfl (hb C.hby d6_7) rfl q) ?_
  rcases hi_q x hx0 hx1 with ⟨hq, he⟩ | ⟨hq, he⟩ | ⟨hq, he⟩ | ⟨hq, he⟩ <;> rw [hq]
  · skip
    show Wk _ p l e _ s m _ below meth c n0 _ h0 0 0 (mkF m 8 #[.val (.ref o), .val (.int x)] [(.int (0 : Int32)), (.ref bl)])
    refine Wk.fLdA C BK.2.2.1 (i := 0) (by decide) (by decide) (by decide) (v := (.ref b0)) (by simp [up]) d6_8 ?_
    show Wk _ p l e _ s m _ below meth c n0 _ h0 0 0 (mkF m 9 #[.val (.ref o), .val (.int x)] [(.ref b0)])
    refine Wk.st (g' := (mkF m 10 #[.val (.ref o), .val (.int x)] [(.int x), (.ref b0)])) (fun X t q => XS.iloadN X.here C.hx rfl (hb C.hby d6_9) rfl q) ?_
    refine Wk.st (g' := (mkF m 13 #[.val (.ref o), .val (.int x)] [(.int (4095 : Int32)), (.int x), (.ref b0)])) (fun X t q => XS.sipush X.here C.hx rfl (hb C.hby d6_10) q) ?_
    refine Wk.st (g' := (mkF m 14 #[.val (.ref o), .val (.int x)] [(.int (x &&& (4095 : Int32))), (.ref b0)])) (fun X t q => XS.iand X.here C.hx rfl (hb C.hby d6_13) rfl q) ?_
    refine Wk.fLdI C BK.2.2.2.1 rfl (lo_nn x) (lo_lt x) (v := (.int (F x.toNatClampNeg))) (by rw [he]) d6_14 ?_
    show Wk _ p l e _ s m _ below meth c n0 _ h0 0 0 (mkF m 15 #[.val (.ref o), .val (.int x)] [(.int (F x.toNatClampNeg))])
    exact Wk.retV C (t := .int) rfl rfl (Or.inl ⟨rfl, by simp, _, rfl⟩) d6_15 (by decide) (by decide) ⟨rfl, rfl⟩
  · skip
    show Wk _ p l e _ s m _ below meth c n0 _ h0 0 0 (mkF m 8 #[.val (.ref o), .val (.int x)] [(.int (1 : Int32)), (.ref bl)])
    refine Wk.fLdA C BK.2.2.1 (i := 1) (by decide) (by decide) (by decide) (v := (.ref b1)) (by simp [up]) d6_8 ?_
    show Wk _ p l e _ s m _ below meth c n0 _ h0 0 0 (mkF m 9 #[.val (.ref o), .val (.int x)] [(.ref b1)])
    refine Wk.st (g' := (mkF m 10 #[.val (.ref o), .val (.int x)] [(.int x), (.ref b1)])) (fun X t q => XS.iloadN X.here C.hx rfl (hb C.hby d6_9) rfl q) ?_
    refine Wk.st (g' := (mkF m 13 #[.val (.ref o), .val (.int x)] [(.int (4095 : Int32)), (.int x), (.ref b1)])) (fun X t q => XS.sipush X.here C.hx rfl (hb C.hby d6_10) q) ?_
    refine Wk.st (g' := (mkF m 14 #[.val (.ref o), .val (.int x)] [(.int (x &&& (4095 : Int32))), (.ref b1)])) (fun X t q => XS.iand X.here C.hx rfl (hb C.hby d6_13) rfl q) ?_
    refine Wk.fLdI C BK.2.2.2.2.1 rfl (lo_nn x) (lo_lt x) (v := (.int (F x.toNatClampNeg))) (by rw [he]) d6_14 ?_
    show Wk _ p l e _ s m _ below meth c n0 _ h0 0 0 (mkF m 15 #[.val (.ref o), .val (.int x)] [(.int (F x.toNatClampNeg))])
    exact Wk.retV C (t := .int) rfl rfl (Or.inl ⟨rfl, by simp, _, rfl⟩) d6_15 (by decide) (by decide) ⟨rfl, rfl⟩
  · skip
    show Wk _ p l e _ s m _ below meth c n0 _ h0 0 0 (mkF m 8 #[.val (.ref o), .val (.int x)] [(.int (2 : Int32)), (.ref bl)])
    refine Wk.fLdA C BK.2.2.1 (i := 2) (by decide) (by decide) (by decide) (v := (.ref b2)) (by simp [up]) d6_8 ?_
    show Wk _ p l e _ s m _ below meth c n0 _ h0 0 0 (mkF m 9 #[.val (.ref o), .val (.int x)] [(.ref b2)])
    refine Wk.st (g' := (mkF m 10 #[.val (.ref o), .val (.int x)] [(.int x), (.ref b2)])) (fun X t q => XS.iloadN X.here C.hx rfl (hb C.hby d6_9) rfl q) ?_
    refine Wk.st (g' := (mkF m 13 #[.val (.ref o), .val (.int x)] [(.int (4095 : Int32)), (.int x), (.ref b2)])) (fun X t q => XS.sipush X.here C.hx rfl (hb C.hby d6_10) q) ?_
    refine Wk.st (g' := (mkF m 14 #[.val (.ref o), .val (.int x)] [(.int (x &&& (4095 : Int32))), (.ref b2)])) (fun X t q => XS.iand X.here C.hx rfl (hb C.hby d6_13) rfl q) ?_
    refine Wk.fLdI C BK.2.2.2.2.2.1 rfl (lo_nn x) (lo_lt x) (v := (.int (F x.toNatClampNeg))) (by rw [he]) d6_14 ?_
    show Wk _ p l e _ s m _ below meth c n0 _ h0 0 0 (mkF m 15 #[.val (.ref o), .val (.int x)] [(.int (F x.toNatClampNeg))])
    exact Wk.retV C (t := .int) rfl rfl (Or.inl ⟨rfl, by simp, _, rfl⟩) d6_15 (by decide) (by decide) ⟨rfl, rfl⟩
  · skip
    show Wk _ p l e _ s m _ below meth c n0 _ h0 0 0 (mkF m 8 #[.val (.ref o), .val (.int x)] [(.int (3 : Int32)), (.ref bl)])
    refine Wk.fLdA C BK.2.2.1 (i := 3) (by decide) (by decide) (by decide) (v := (.ref b3)) (by simp [up]) d6_8 ?_
    show Wk _ p l e _ s m _ below meth c n0 _ h0 0 0 (mkF m 9 #[.val (.ref o), .val (.int x)] [(.ref b3)])
    refine Wk.st (g' := (mkF m 10 #[.val (.ref o), .val (.int x)] [(.int x), (.ref b3)])) (fun X t q => XS.iloadN X.here C.hx rfl (hb C.hby d6_9) rfl q) ?_
    refine Wk.st (g' := (mkF m 13 #[.val (.ref o), .val (.int x)] [(.int (4095 : Int32)), (.int x), (.ref b3)])) (fun X t q => XS.sipush X.here C.hx rfl (hb C.hby d6_10) q) ?_
    refine Wk.st (g' := (mkF m 14 #[.val (.ref o), .val (.int x)] [(.int (x &&& (4095 : Int32))), (.ref b3)])) (fun X t q => XS.iand X.here C.hx rfl (hb C.hby d6_13) rfl q) ?_
    refine Wk.fLdI C BK.2.2.2.2.2.2 rfl (lo_nn x) (lo_lt x) (v := (.int (F x.toNatClampNeg))) (by rw [he]) d6_14 ?_
    show Wk _ p l e _ s m _ below meth c n0 _ h0 0 0 (mkF m 15 #[.val (.ref o), .val (.int x)] [(.int (F x.toNatClampNeg))])
    exact Wk.retV C (t := .int) rfl rfl (Or.inl ⟨rfl, by simp, _, rfl⟩) d6_15 (by decide) (by decide) ⟨rfl, rfl⟩
theorem d7_0 : decode method_2_code 0 = .ok (.iload_n 0, 1) := by decide +kernel
theorem d7_1 : decode method_2_code 1 = .ok (.iload_n 3, 1) := by decide +kernel
theorem d7_2 : decode method_2_code 2 = .ok (.if_icmp .ne 6, 3) := by decide +kernel
theorem d7_5 : decode method_2_code 5 = .ok (.iload 4, 2) := by decide +kernel
theorem d7_7 : decode method_2_code 7 = .ok (.ireturn, 1) := by decide +kernel
theorem d7_8 : decode method_2_code 8 = .ok (.iload_n 0, 1) := by decide +kernel
theorem d7_9 : decode method_2_code 9 = .ok (.iload_n 1, 1) := by decide +kernel
theorem d7_10 : decode method_2_code 10 = .ok (.if_icmp .ne 5, 3) := by decide +kernel
theorem d7_13 : decode method_2_code 13 = .ok (.iload_n 2, 1) := by decide +kernel
theorem d7_14 : decode method_2_code 14 = .ok (.ireturn, 1) := by decide +kernel
theorem d7_15 : decode method_2_code 15 = .ok (.iconst 0, 1) := by decide +kernel
theorem d7_16 : decode method_2_code 16 = .ok (.ireturn, 1) := by decide +kernel
set_option maxRecDepth 65536 in
set_option maxHeartbeats 40000000 in
theorem own_exp (l : Launch) (Z : State) (a0 : Array Value) (hw : ∀ d ∈ tables_1, d.before a0 Z = true) (n0 : Nat) (h0 : Heap) (k i a j b : Int32) :
    Met true l Z n0 (⟨"com/example/torino/torino/IntBlocksGetPinLaw", "expected", "(IIIII)I"⟩ : MethodName) method_2_code 5 (some .int) ({ frames := 0, cells := 0, slots := 0, locals := 0 } : Room) #[(.int k), (.int i), (.int a), (.int j), (.int b)] h0 (fun v h => v = some (.int (if k = j then b else if k = i then a else (0 : Int32))) ∧ h0 = h) := by
  refine Met.of pn_1 #[.val (.int k), .val (.int i), .val (.int a), .val (.int j), .val (.int b)] (fun m => by first | (simp [entryFrame, mkF, argsToLocals, Value.category]; done) | rfl) ?_
  intro p e s m below meth c C
  refine Wk.st (g' := (mkF m 1 #[.val (.int k), .val (.int i), .val (.int a), .val (.int j), .val (.int b)] [(.int k)])) (fun X t q => XS.iloadN X.here C.hx rfl (hb C.hby d7_0) rfl q) ?_
  refine Wk.st (g' := (mkF m 2 #[.val (.int k), .val (.int i), .val (.int a), .val (.int j), .val (.int b)] [(.int j), (.int k)])) (fun X t q => XS.iloadN X.here C.hx rfl (hb C.hby d7_1) rfl q) ?_
  by_cases hb1 : k = j
  · skip
    refine Wk.st (g' := (mkF m 5 #[.val (.int k), .val (.int i), .val (.int a), .val (.int j), .val (.int b)] [])) (fun X t q => XS.icmpNo X.here C.hx rfl (hb C.hby d7_2) rfl (XT.ii_ne_f hb1) q) ?_
    refine Wk.st (g' := (mkF m 7 #[.val (.int k), .val (.int i), .val (.int a), .val (.int j), .val (.int b)] [(.int b)])) (fun X t q => XS.iload X.here C.hx rfl (hb C.hby d7_5) rfl q) ?_
    exact Wk.retV C (t := .int) rfl rfl (Or.inl ⟨rfl, by simp, _, rfl⟩) d7_7 (by decide) (by decide) ⟨by rw [if_pos hb1], rfl⟩
  · skip
    refine Wk.st (g' := (mkF m 8 #[.val (.int k), .val (.int i), .val (.int a), .val (.int j), .val (.int b)] [])) (fun X t q => XS.icmpYes X.here C.hx rfl (pc0 := 2) (pc' := 8) rfl (hb C.hby d7_2) rfl (XT.ii_ne_t hb1) (by decide) (by decide) q) ?_
    refine Wk.st (g' := (mkF m 9 #[.val (.int k), .val (.int i), .val (.int a), .val (.int j), .val (.int b)] [(.int k)])) (fun X t q => XS.iloadN X.here C.hx rfl (hb C.hby d7_8) rfl q) ?_
    refine Wk.st (g' := (mkF m 10 #[.val (.int k), .val (.int i), .val (.int a), .val (.int j), .val (.int b)] [(.int i), (.int k)])) (fun X t q => XS.iloadN X.here C.hx rfl (hb C.hby d7_9) rfl q) ?_
    by_cases hb2 : k = i
    · skip
      refine Wk.st (g' := (mkF m 13 #[.val (.int k), .val (.int i), .val (.int a), .val (.int j), .val (.int b)] [])) (fun X t q => XS.icmpNo X.here C.hx rfl (hb C.hby d7_10) rfl (XT.ii_ne_f hb2) q) ?_
      refine Wk.st (g' := (mkF m 14 #[.val (.int k), .val (.int i), .val (.int a), .val (.int j), .val (.int b)] [(.int a)])) (fun X t q => XS.iloadN X.here C.hx rfl (hb C.hby d7_13) rfl q) ?_
      exact Wk.retV C (t := .int) rfl rfl (Or.inl ⟨rfl, by simp, _, rfl⟩) d7_14 (by decide) (by decide) ⟨by rw [if_neg hb1, if_pos hb2], rfl⟩
    · skip
      refine Wk.st (g' := (mkF m 15 #[.val (.int k), .val (.int i), .val (.int a), .val (.int j), .val (.int b)] [])) (fun X t q => XS.icmpYes X.here C.hx rfl (pc0 := 10) (pc' := 15) rfl (hb C.hby d7_10) rfl (XT.ii_ne_t hb2) (by decide) (by decide) q) ?_
      refine Wk.st (g' := (mkF m 16 #[.val (.int k), .val (.int i), .val (.int a), .val (.int j), .val (.int b)] [(.int (0 : Int32))])) (fun X t q => XS.iconst X.here C.hx rfl (hb C.hby d7_15) q) ?_
      exact Wk.retV C (t := .int) rfl rfl (Or.inl ⟨rfl, by simp, _, rfl⟩) d7_16 (by decide) (by decide) ⟨by rw [if_neg hb1, if_neg hb2], rfl⟩
theorem d1_0 : decode prog_11_method_1_code 0 = .ok (.aload_n 0, 1) := by decide +kernel
theorem d1_1 : decode prog_11_method_1_code 1 = .ok (.invokespecial 3, 3) := by decide +kernel
theorem d1_4 : decode prog_11_method_1_code 4 = .ok (.aload_n 0, 1) := by decide +kernel
theorem d1_5 : decode prog_11_method_1_code 5 = .ok (.bipush 16, 2) := by decide +kernel
theorem d1_7 : decode prog_11_method_1_code 7 = .ok (.anewarray 9, 3) := by decide +kernel
theorem d1_10 : decode prog_11_method_1_code 10 = .ok (.putfield 11, 3) := by decide +kernel
theorem d1_13 : decode prog_11_method_1_code 13 = .ok (.aload_n 0, 1) := by decide +kernel
theorem d1_14 : decode prog_11_method_1_code 14 = .ok (.getfield 11, 3) := by decide +kernel
theorem d1_17 : decode prog_11_method_1_code 17 = .ok (.iconst 0, 1) := by decide +kernel
theorem d1_18 : decode prog_11_method_1_code 18 = .ok (.sipush 4096, 3) := by decide +kernel
theorem d1_21 : decode prog_11_method_1_code 21 = .ok (.newarray .int, 2) := by decide +kernel
theorem d1_23 : decode prog_11_method_1_code 23 = .ok (.aastore, 1) := by decide +kernel
theorem d1_24 : decode prog_11_method_1_code 24 = .ok (.aload_n 0, 1) := by decide +kernel
theorem d1_25 : decode prog_11_method_1_code 25 = .ok (.iconst 1, 1) := by decide +kernel
theorem d1_26 : decode prog_11_method_1_code 26 = .ok (.putfield 15, 3) := by decide +kernel
theorem d1_29 : decode prog_11_method_1_code 29 = .ok (.return_, 1) := by decide +kernel
set_option maxRecDepth 65536 in
set_option maxHeartbeats 40000000 in
theorem own_1_1 (l : Launch) (Z : State) (a0 : Array Value) (hw : ∀ d ∈ tables_1, d.before a0 Z = true) (n0 : Nat) (h0 : Heap) (hsz : n0 ≤ h0.size) (o0 : Addr) (P0 : Exa Z h0 o0 "com/example/torino/torino/IntBlocks") (P1 : Fld Z h0 o0 "com/example/torino/torino/IntBlocks" "blocks" "[[I" .null) (P2 : Fld Z h0 o0 "com/example/torino/torino/IntBlocks" "blockCount" "I" (.int (0 : Int32))) (G_o0 : n0 ≤ o0) :
    Met true l Z n0 (⟨"com/example/torino/torino/IntBlocks", "<init>", "()V"⟩ : MethodName) prog_11_method_1_code 1 none ({ frames := 1, cells := 2, slots := 4112, locals := 12 } : Room) #[(.ref o0)] h0 (fun v h => ∃ b2 : Addr, ∃ b27 : Addr, v = none ∧ Keep h0 h [o0] ∧ h0.size ≤ b2 ∧ h0.size ≤ b27 ∧ b2 ≠ b27 ∧ Exa Z h b2 "[[I" ∧ Fld Z h o0 "com/example/torino/torino/IntBlocks" "blocks" "[[I" (.ref b2) ∧ Exa Z h b27 "[I" ∧ Fa Z h b27 .int 4096 (fun _ => (.int (0 : Int32))) ∧ FaA Z h b2 .int "[I" 16 (up (fun _ => .null) 0 (.ref b27)) ∧ Fld Z h o0 "com/example/torino/torino/IntBlocks" "blockCount" "I" (.int (1 : Int32))) := by
  refine Met.of pn_0 #[.val (.ref o0)] (fun m => by first | (simp [entryFrame, mkF, argsToLocals, Value.category]; done) | rfl) ?_
  intro p e s m below meth c C
  refine Wk.st (g' := (mkF m 1 #[.val (.ref o0)] [(.ref o0)])) (fun X t q => XS.aloadN X.here C.hx rfl (hb C.hby d1_0) rfl rfl q) ?_
  refine Wk.initO C (hw _ (List.mem_of_getElem? (i := 6) rfl)) (hw _ (List.mem_of_getElem? (i := 7) rfl)) (hw _ (List.mem_of_getElem? (i := 8) rfl)) (w := 0) rfl d1_1 (by decide) (Nat.le_of_eq rfl) (by decide) ?_
  show Wk _ p l e _ s m _ below meth c n0 _ h0 0 0 (mkF m 4 #[.val (.ref o0)] [])
  refine Wk.st (g' := (mkF m 5 #[.val (.ref o0)] [(.ref o0)])) (fun X t q => XS.aloadN X.here C.hx rfl (hb C.hby d1_4) rfl rfl q) ?_
  refine Wk.st (g' := (mkF m 7 #[.val (.ref o0)] [(.int (16 : Int32)), (.ref o0)])) (fun X t q => XS.bipush X.here C.hx rfl (hb C.hby d1_5) q) ?_
  refine Wk.fNewA C (ty := .int) (K := "[I") (N := 16) (ad := "[[I") (by decide) (hw _ (List.mem_of_getElem? (i := 9) rfl)) (hw _ (List.mem_of_getElem? (i := 10) rfl)) (by decide) (by decide) (by decide) (cap := 16) (by decide) (by decide) d1_7 (by decide) (by decide) ?_
  intro h1 b2 g3 E4 A5 F6
  have ne7 : o0 ≠ b2 := Nat.ne_of_lt (Nat.lt_of_lt_of_le P0.lt (Nat.le_of_eq g3.symm))
  have ge8 : n0 ≤ b2 := Nat.le_trans hsz (Nat.le_of_eq g3.symm)
  have gz9 : h0.size ≤ b2 := Nat.le_trans (Nat.le_refl h0.size) (Nat.le_of_eq g3.symm)
  have F10 : Exa Z h1 o0 "com/example/torino/torino/IntBlocks" := P0.ext E4
  have F11 : Fld Z h1 o0 "com/example/torino/torino/IntBlocks" "blocks" "[[I" .null := P1.ext E4
  have F12 : Fld Z h1 o0 "com/example/torino/torino/IntBlocks" "blockCount" "I" (.int (0 : Int32)) := P2.ext E4
  have sz13 : n0 ≤ h1.size := Nat.le_trans hsz E4.1
  have sy14 : h0.size ≤ h1.size := Nat.le_trans (Nat.le_refl h0.size) E4.1
  have K15 := (Keep.refl h0 [o0]).ext E4
  show Wk _ p l e _ s m _ below meth c n0 _ h1 1 16 (mkF m 10 #[.val (.ref o0)] [(.ref b2), (.ref o0)])
  refine Wk.putF C (hw _ (List.mem_of_getElem? (i := 11) rfl)) Via.refl F11 F10 (Or.inl (hw _ (List.mem_of_getElem? (i := 12) rfl))) (hw _ (List.mem_of_getElem? (i := 1) rfl)) (ty := (.array (.array .int))) (by decide) (v' := (.ref b2)) rfl rfl G_o0 d1_10 ?_
  intro h16 W17
  have F18 : Fld Z h16 o0 "com/example/torino/torino/IntBlocks" "blocks" "[[I" (.ref b2) := F11.same W17
  have F19 : Exa Z h16 o0 "com/example/torino/torino/IntBlocks" := F10.wr W17
  have F20 : Fld Z h16 o0 "com/example/torino/torino/IntBlocks" "blockCount" "I" (.int (0 : Int32)) := F12.other W17 (Or.inr (slot_ne (Or.inl (hw _ (List.mem_of_getElem? (i := 16) rfl))) (Or.inl (hw _ (List.mem_of_getElem? (i := 12) rfl))) (by decide) (t := .int) (t' := (.array (.array .int))) (by decide) (by decide)))
  have F21 : Exa Z h16 b2 "[[I" := A5.wr W17
  have F22 : FaA Z h16 b2 .int "[I" 16 (fun _ => .null) := F6.other W17 (Ne.symm ne7)
  have sz23 : n0 ≤ h16.size := Nat.le_trans sz13 (Nat.le_of_eq W17.size.symm)
  have sy24 : h0.size ≤ h16.size := Nat.le_trans sy14 (Nat.le_of_eq W17.size.symm)
  have K25 := K15.wr W17 (Or.inl (by simp))
  show Wk _ p l e _ s m _ below meth c n0 _ h16 1 16 (mkF m 13 #[.val (.ref o0)] [])
  refine Wk.st (g' := (mkF m 14 #[.val (.ref o0)] [(.ref o0)])) (fun X t q => XS.aloadN X.here C.hx rfl (hb C.hby d1_13) rfl rfl q) ?_
  refine Wk.getF C (hw _ (List.mem_of_getElem? (i := 11) rfl)) Via.refl F18 d1_14 ?_
  show Wk _ p l e _ s m _ below meth c n0 _ h16 1 16 (mkF m 17 #[.val (.ref o0)] [(.ref b2)])
  refine Wk.st (g' := (mkF m 18 #[.val (.ref o0)] [(.int (0 : Int32)), (.ref b2)])) (fun X t q => XS.iconst X.here C.hx rfl (hb C.hby d1_17) q) ?_
  refine Wk.st (g' := (mkF m 21 #[.val (.ref o0)] [(.int (4096 : Int32)), (.int (0 : Int32)), (.ref b2)])) (fun X t q => XS.sipush X.here C.hx rfl (hb C.hby d1_18) q) ?_
  refine Wk.fNewP C (hw _ (List.mem_of_getElem? (i := 13) rfl)) (ty := .int) (dv := (.int (0 : Int32))) (N := 4096) (ad := "[I") rfl rfl (by decide) (by decide) (by decide) (cap := 4096) (by decide) (by decide) d1_21 (by decide) (by decide) ?_
  intro h26 b27 g28 E29 A30 F31
  have ne32 : o0 ≠ b27 := Nat.ne_of_lt (Nat.lt_of_lt_of_le F19.lt (Nat.le_of_eq g28.symm))
  have ne33 : b2 ≠ b27 := Nat.ne_of_lt (Nat.lt_of_lt_of_le F21.lt (Nat.le_of_eq g28.symm))
  have ge34 : n0 ≤ b27 := Nat.le_trans sz23 (Nat.le_of_eq g28.symm)
  have gz35 : h0.size ≤ b27 := Nat.le_trans sy24 (Nat.le_of_eq g28.symm)
  have F36 : Exa Z h26 o0 "com/example/torino/torino/IntBlocks" := F19.ext E29
  have F37 : Fld Z h26 o0 "com/example/torino/torino/IntBlocks" "blockCount" "I" (.int (0 : Int32)) := F20.ext E29
  have F38 : Exa Z h26 b2 "[[I" := F21.ext E29
  have F39 : FaA Z h26 b2 .int "[I" 16 (fun _ => .null) := F22.ext E29
  have F40 : Fld Z h26 o0 "com/example/torino/torino/IntBlocks" "blocks" "[[I" (.ref b2) := F18.ext E29
  have sz41 : n0 ≤ h26.size := Nat.le_trans sz23 E29.1
  have sy42 : h0.size ≤ h26.size := Nat.le_trans sy24 E29.1
  have K43 := K25.ext E29
  show Wk _ p l e _ s m _ below meth c n0 _ h26 2 4112 (mkF m 23 #[.val (.ref o0)] [(.ref b27), (.int (0 : Int32)), (.ref b2)])
  refine Wk.fStA C F39 (i := 0) (by decide) (by decide) (by decide) (F39.sto A30) ge8 d1_23 ?_
  intro h44 W45 F46
  have F47 : Exa Z h44 o0 "com/example/torino/torino/IntBlocks" := F36.wr W45
  have F48 : Fld Z h44 o0 "com/example/torino/torino/IntBlocks" "blockCount" "I" (.int (0 : Int32)) := F37.other W45 (Or.inl ne7)
  have F49 : Exa Z h44 b2 "[[I" := F38.wr W45
  have F50 : Fld Z h44 o0 "com/example/torino/torino/IntBlocks" "blocks" "[[I" (.ref b2) := F40.other W45 (Or.inl ne7)
  have F51 : Exa Z h44 b27 "[I" := A30.wr W45
  have F52 : Fa Z h44 b27 .int 4096 (fun _ => (.int (0 : Int32))) := F31.other W45 (Ne.symm ne33)
  have sz53 : n0 ≤ h44.size := Nat.le_trans sz41 (Nat.le_of_eq W45.size.symm)
  have sy54 : h0.size ≤ h44.size := Nat.le_trans sy42 (Nat.le_of_eq W45.size.symm)
  have K55 := K43.wr W45 (Or.inr gz9)
  show Wk _ p l e _ s m _ below meth c n0 _ h44 2 4112 (mkF m 24 #[.val (.ref o0)] [])
  refine Wk.st (g' := (mkF m 25 #[.val (.ref o0)] [(.ref o0)])) (fun X t q => XS.aloadN X.here C.hx rfl (hb C.hby d1_24) rfl rfl q) ?_
  refine Wk.st (g' := (mkF m 26 #[.val (.ref o0)] [(.int (1 : Int32)), (.ref o0)])) (fun X t q => XS.iconst X.here C.hx rfl (hb C.hby d1_25) q) ?_
  refine Wk.putF C (hw _ (List.mem_of_getElem? (i := 15) rfl)) Via.refl F48 F47 (Or.inl (hw _ (List.mem_of_getElem? (i := 16) rfl))) (hw _ (List.mem_of_getElem? (i := 1) rfl)) (ty := .int) (by decide) (v' := (.int (1 : Int32))) rfl rfl G_o0 d1_26 ?_
  intro h56 W57
  have F58 : Fld Z h56 o0 "com/example/torino/torino/IntBlocks" "blockCount" "I" (.int (1 : Int32)) := F48.same W57
  have F59 : Exa Z h56 o0 "com/example/torino/torino/IntBlocks" := F47.wr W57
  have F60 : Exa Z h56 b2 "[[I" := F49.wr W57
  have F61 : Fld Z h56 o0 "com/example/torino/torino/IntBlocks" "blocks" "[[I" (.ref b2) := F50.other W57 (Or.inr (slot_ne (Or.inl (hw _ (List.mem_of_getElem? (i := 12) rfl))) (Or.inl (hw _ (List.mem_of_getElem? (i := 16) rfl))) (by decide) (t := (.array (.array .int))) (t' := .int) (by decide) (by decide)))
  have F62 : Exa Z h56 b27 "[I" := F51.wr W57
  have F63 : Fa Z h56 b27 .int 4096 (fun _ => (.int (0 : Int32))) := F52.other W57 (Ne.symm ne32)
  have F64 : FaA Z h56 b2 .int "[I" 16 (up (fun _ => .null) 0 (.ref b27)) := F46.other W57 (Ne.symm ne7)
  have sz65 : n0 ≤ h56.size := Nat.le_trans sz53 (Nat.le_of_eq W57.size.symm)
  have sy66 : h0.size ≤ h56.size := Nat.le_trans sy54 (Nat.le_of_eq W57.size.symm)
  have K67 := K55.wr W57 (Or.inl (by simp))
  show Wk _ p l e _ s m _ below meth c n0 _ h56 2 4112 (mkF m 29 #[.val (.ref o0)] [])
  exact Wk.retN0 C rfl d1_29 (by decide) (by decide) ⟨b2, b27, rfl, K67, gz9, gz35, ne33, F60, F61, F62, F63, F64, F58⟩
theorem d4_0 : decode prog_2_method_2_code 0 = .ok (.lload_n 0, 1) := by decide +kernel
theorem d4_1 : decode prog_2_method_2_code 1 = .ok (.ldc2_w 11, 3) := by decide +kernel
theorem d4_4 : decode prog_2_method_2_code 4 = .ok (.lcmp, 1) := by decide +kernel
theorem d4_5 : decode prog_2_method_2_code 5 = .ok (.ifCond .le 17, 3) := by decide +kernel
theorem d4_8 : decode prog_2_method_2_code 8 = .ok (.new 13, 3) := by decide +kernel
theorem d4_11 : decode prog_2_method_2_code 11 = .ok (.dup, 1) := by decide +kernel
theorem d4_12 : decode prog_2_method_2_code 12 = .ok (.aload_n 2, 1) := by decide +kernel
theorem d4_13 : decode prog_2_method_2_code 13 = .ok (.invokedynamic 15, 5) := by decide +kernel
theorem d4_18 : decode prog_2_method_2_code 18 = .ok (.invokespecial 19, 3) := by decide +kernel
theorem d4_21 : decode prog_2_method_2_code 21 = .ok (.athrow, 1) := by decide +kernel
theorem d4_22 : decode prog_2_method_2_code 22 = .ok (.return_, 1) := by decide +kernel
set_option maxRecDepth 65536 in
set_option maxHeartbeats 40000000 in
theorem own_4_2 (l : Launch) (Z : State) (a0 : Array Value) (hw : ∀ d ∈ tables_1, d.before a0 Z = true) (n0 : Nat) (h0 : Heap) (hsz : n0 ≤ h0.size) (o0 : Addr) :
    Met true l Z n0 (⟨"com/example/torino/torino/ArrayLengths", "checkLength", "(JLjava/lang/String;)V"⟩ : MethodName) prog_2_method_2_code 3 none ({ frames := 0, cells := 0, slots := 0, locals := 0 } : Room) #[(.long (16384 : Int64)), (.ref o0)] h0 (fun v h => v = none ∧ h0 = h) := by
  refine Met.of pn_2 #[.val (.long (16384 : Int64)), .second, .val (.ref o0)] (fun m => by first | (simp [entryFrame, mkF, argsToLocals, Value.category]; done) | rfl) ?_
  intro p e s m below meth c C
  refine Wk.st (g' := (mkF m 1 #[.val (.long (16384 : Int64)), .second, .val (.ref o0)] [(.long (16384 : Int64))])) (fun X t q => XS.lloadN X.here C.hx rfl (hb C.hby d4_0) rfl q) ?_
  refine Wk.ldc2J C (hw _ (List.mem_of_getElem? (i := 35) rfl)) d4_1 ?_
  show Wk _ p l e _ s m _ below meth c n0 _ h0 0 0 (mkF m 4 #[.val (.long (16384 : Int64)), .second, .val (.ref o0)] [(.long (2147483639 : Int64)), (.long (16384 : Int64))])
  refine Wk.st (g' := (mkF m 5 #[.val (.long (16384 : Int64)), .second, .val (.ref o0)] [(.int (XT.cmpL (16384 : Int64) (2147483639 : Int64)))])) (fun X t q => XT.lcmp X.here C.hx rfl (hb C.hby d4_4) rfl q) ?_
  refine Wk.st (g' := (mkF m 22 #[.val (.long (16384 : Int64)), .second, .val (.ref o0)] [])) (fun X t q => XS.ifYes X.here C.hx rfl (pc0 := 5) (pc' := 22) rfl (hb C.hby d4_5) rfl (XT.ll_le_t (by decide)) (by decide) (by decide) q) ?_
  exact Wk.retN0 C rfl d4_22 (by decide) (by decide) ⟨rfl, rfl⟩
theorem d3_0 : decode prog_11_method_4_code 0 = .ok (.lload_n 1, 1) := by decide +kernel
theorem d3_1 : decode prog_11_method_4_code 1 = .ok (.aload_n 0, 1) := by decide +kernel
theorem d3_2 : decode prog_11_method_4_code 2 = .ok (.getfield 15, 3) := by decide +kernel
theorem d3_5 : decode prog_11_method_4_code 5 = .ok (.i2l, 1) := by decide +kernel
theorem d3_6 : decode prog_11_method_4_code 6 = .ok (.bipush 12, 2) := by decide +kernel
theorem d3_8 : decode prog_11_method_4_code 8 = .ok (.lshl, 1) := by decide +kernel
theorem d3_9 : decode prog_11_method_4_code 9 = .ok (.lcmp, 1) := by decide +kernel
theorem d3_10 : decode prog_11_method_4_code 10 = .ok (.ifCond .le 94, 3) := by decide +kernel
theorem d3_13 : decode prog_11_method_4_code 13 = .ok (.lload_n 1, 1) := by decide +kernel
theorem d3_14 : decode prog_11_method_4_code 14 = .ok (.aload_n 3, 1) := by decide +kernel
theorem d3_15 : decode prog_11_method_4_code 15 = .ok (.invokestatic 19, 3) := by decide +kernel
theorem d3_18 : decode prog_11_method_4_code 18 = .ok (.lload_n 1, 1) := by decide +kernel
theorem d3_19 : decode prog_11_method_4_code 19 = .ok (.ldc2_w 25, 3) := by decide +kernel
theorem d3_22 : decode prog_11_method_4_code 22 = .ok (.ladd, 1) := by decide +kernel
theorem d3_23 : decode prog_11_method_4_code 23 = .ok (.bipush 12, 2) := by decide +kernel
theorem d3_25 : decode prog_11_method_4_code 25 = .ok (.lushr, 1) := by decide +kernel
theorem d3_26 : decode prog_11_method_4_code 26 = .ok (.l2i, 1) := by decide +kernel
theorem d3_27 : decode prog_11_method_4_code 27 = .ok (.istore 4, 2) := by decide +kernel
theorem d3_29 : decode prog_11_method_4_code 29 = .ok (.iload 4, 2) := by decide +kernel
theorem d3_31 : decode prog_11_method_4_code 31 = .ok (.aload_n 0, 1) := by decide +kernel
theorem d3_32 : decode prog_11_method_4_code 32 = .ok (.getfield 11, 3) := by decide +kernel
theorem d3_35 : decode prog_11_method_4_code 35 = .ok (.arraylength, 1) := by decide +kernel
theorem d3_36 : decode prog_11_method_4_code 36 = .ok (.if_icmp .le 32, 3) := by decide +kernel
theorem d3_39 : decode prog_11_method_4_code 39 = .ok (.aload_n 0, 1) := by decide +kernel
theorem d3_40 : decode prog_11_method_4_code 40 = .ok (.aload_n 0, 1) := by decide +kernel
theorem d3_41 : decode prog_11_method_4_code 41 = .ok (.getfield 11, 3) := by decide +kernel
theorem d3_44 : decode prog_11_method_4_code 44 = .ok (.aload_n 0, 1) := by decide +kernel
theorem d3_45 : decode prog_11_method_4_code 45 = .ok (.getfield 11, 3) := by decide +kernel
theorem d3_48 : decode prog_11_method_4_code 48 = .ok (.arraylength, 1) := by decide +kernel
theorem d3_49 : decode prog_11_method_4_code 49 = .ok (.iload 4, 2) := by decide +kernel
theorem d3_51 : decode prog_11_method_4_code 51 = .ok (.i2l, 1) := by decide +kernel
theorem d3_52 : decode prog_11_method_4_code 52 = .ok (.ldc2_w 27, 3) := by decide +kernel
theorem d3_55 : decode prog_11_method_4_code 55 = .ok (.aload_n 3, 1) := by decide +kernel
theorem d3_56 : decode prog_11_method_4_code 56 = .ok (.invokestatic 29, 3) := by decide +kernel
theorem d3_59 : decode prog_11_method_4_code 59 = .ok (.invokestatic 33, 3) := by decide +kernel
theorem d3_62 : decode prog_11_method_4_code 62 = .ok (.checkcast 39, 3) := by decide +kernel
theorem d3_65 : decode prog_11_method_4_code 65 = .ok (.putfield 11, 3) := by decide +kernel
theorem d3_68 : decode prog_11_method_4_code 68 = .ok (.aload_n 0, 1) := by decide +kernel
theorem d3_69 : decode prog_11_method_4_code 69 = .ok (.getfield 15, 3) := by decide +kernel
theorem d3_72 : decode prog_11_method_4_code 72 = .ok (.iload 4, 2) := by decide +kernel
theorem d3_74 : decode prog_11_method_4_code 74 = .ok (.if_icmp .ge 30, 3) := by decide +kernel
theorem d3_77 : decode prog_11_method_4_code 77 = .ok (.aload_n 0, 1) := by decide +kernel
theorem d3_78 : decode prog_11_method_4_code 78 = .ok (.getfield 11, 3) := by decide +kernel
theorem d3_81 : decode prog_11_method_4_code 81 = .ok (.aload_n 0, 1) := by decide +kernel
theorem d3_82 : decode prog_11_method_4_code 82 = .ok (.getfield 15, 3) := by decide +kernel
theorem d3_85 : decode prog_11_method_4_code 85 = .ok (.sipush 4096, 3) := by decide +kernel
theorem d3_88 : decode prog_11_method_4_code 88 = .ok (.newarray .int, 2) := by decide +kernel
theorem d3_90 : decode prog_11_method_4_code 90 = .ok (.aastore, 1) := by decide +kernel
theorem d3_91 : decode prog_11_method_4_code 91 = .ok (.aload_n 0, 1) := by decide +kernel
theorem d3_92 : decode prog_11_method_4_code 92 = .ok (.dup, 1) := by decide +kernel
theorem d3_93 : decode prog_11_method_4_code 93 = .ok (.getfield 15, 3) := by decide +kernel
theorem d3_96 : decode prog_11_method_4_code 96 = .ok (.iconst 1, 1) := by decide +kernel
theorem d3_97 : decode prog_11_method_4_code 97 = .ok (.iadd, 1) := by decide +kernel
theorem d3_98 : decode prog_11_method_4_code 98 = .ok (.putfield 15, 3) := by decide +kernel
theorem d3_101 : decode prog_11_method_4_code 101 = .ok (.goto (-33), 3) := by decide +kernel
theorem d3_104 : decode prog_11_method_4_code 104 = .ok (.return_, 1) := by decide +kernel
set_option maxRecDepth 65536 in
set_option maxHeartbeats 40000000 in
theorem own_3_2 (l : Launch) (Z : State) (a0 : Array Value) (hw : ∀ d ∈ tables_1, d.before a0 Z = true) (n0 : Nat) (h0 : Heap) (hsz : n0 ≤ h0.size) (o0 : Addr) (o1 : Addr) (o2 : Addr) (o3 : Addr) (P0 : Exa Z h0 o0 "com/example/torino/torino/IntBlocks") (P1 : Exa Z h0 o2 "[[I") (P2 : Fld Z h0 o0 "com/example/torino/torino/IntBlocks" "blocks" "[[I" (.ref o2)) (P3 : Exa Z h0 o3 "[I") (P4 : Fa Z h0 o3 .int 4096 (fun _ => (.int (0 : Int32)))) (P5 : FaA Z h0 o2 .int "[I" 16 (up (fun _ => .null) 0 (.ref o3))) (P6 : Fld Z h0 o0 "com/example/torino/torino/IntBlocks" "blockCount" "I" (.int (1 : Int32))) (N_o0_o2 : o0 ≠ o2) (N_o0_o3 : o0 ≠ o3) (N_o2_o3 : o2 ≠ o3) (G_o0 : n0 ≤ o0) (G_o2 : n0 ≤ o2) (G_o3 : n0 ≤ o3) :
    Met true l Z n0 (⟨"com/example/torino/torino/IntBlocks", "makeRoom", "(JLjava/lang/String;)V"⟩ : MethodName) prog_11_method_4_code 5 none ({ frames := 1, cells := 3, slots := 12288, locals := 14 } : Room) #[(.ref o0), (.long (16384 : Int64)), (.ref o1)] h0 (fun v h => ∃ b4 : Addr, ∃ b53 : Addr, ∃ b109 : Addr, v = none ∧ Keep h0 h [o0, o2] ∧ h0.size ≤ b4 ∧ h0.size ≤ b53 ∧ h0.size ≤ b109 ∧ b4 ≠ b53 ∧ b4 ≠ b109 ∧ b53 ≠ b109 ∧ Fld Z h o0 "com/example/torino/torino/IntBlocks" "blocks" "[[I" (.ref o2) ∧ Exa Z h b4 "[I" ∧ Fa Z h b4 .int 4096 (fun _ => (.int (0 : Int32))) ∧ Exa Z h b53 "[I" ∧ Fa Z h b53 .int 4096 (fun _ => (.int (0 : Int32))) ∧ Exa Z h b109 "[I" ∧ Fa Z h b109 .int 4096 (fun _ => (.int (0 : Int32))) ∧ FaA Z h o2 .int "[I" 16 (up (up (up (up (fun _ => .null) 0 (.ref o3)) 1 (.ref b4)) 2 (.ref b53)) 3 (.ref b109)) ∧ Fld Z h o0 "com/example/torino/torino/IntBlocks" "blockCount" "I" (.int (4 : Int32))) := by
  refine Met.of pn_0 #[.val (.ref o0), .val (.long (16384 : Int64)), .second, .val (.ref o1), .unset] (fun m => by first | (simp [entryFrame, mkF, argsToLocals, Value.category]; done) | rfl) ?_
  intro p e s m below meth c C
  refine Wk.st (g' := (mkF m 1 #[.val (.ref o0), .val (.long (16384 : Int64)), .second, .val (.ref o1), .unset] [(.long (16384 : Int64))])) (fun X t q => XS.lloadN X.here C.hx rfl (hb C.hby d3_0) rfl q) ?_
  refine Wk.st (g' := (mkF m 2 #[.val (.ref o0), .val (.long (16384 : Int64)), .second, .val (.ref o1), .unset] [(.ref o0), (.long (16384 : Int64))])) (fun X t q => XS.aloadN X.here C.hx rfl (hb C.hby d3_1) rfl rfl q) ?_
  refine Wk.getF C (hw _ (List.mem_of_getElem? (i := 15) rfl)) Via.refl P6 d3_2 ?_
  show Wk _ p l e _ s m _ below meth c n0 _ h0 0 0 (mkF m 5 #[.val (.ref o0), .val (.long (16384 : Int64)), .second, .val (.ref o1), .unset] [(.int (1 : Int32)), (.long (16384 : Int64))])
  refine Wk.st (g' := (mkF m 6 #[.val (.ref o0), .val (.long (16384 : Int64)), .second, .val (.ref o1), .unset] [(.long (1 : Int64)), (.long (16384 : Int64))])) (fun X t q => XS.i2l X.here C.hx rfl (hb C.hby d3_5) rfl q) ?_
  refine Wk.st (g' := (mkF m 8 #[.val (.ref o0), .val (.long (16384 : Int64)), .second, .val (.ref o1), .unset] [(.int (12 : Int32)), (.long (1 : Int64)), (.long (16384 : Int64))])) (fun X t q => XS.bipush X.here C.hx rfl (hb C.hby d3_6) q) ?_
  refine Wk.st (g' := (mkF m 9 #[.val (.ref o0), .val (.long (16384 : Int64)), .second, .val (.ref o1), .unset] [(.long (4096 : Int64)), (.long (16384 : Int64))])) (fun X t q => XS.lshl X.here C.hx rfl (hb C.hby d3_8) rfl q) ?_
  refine Wk.st (g' := (mkF m 10 #[.val (.ref o0), .val (.long (16384 : Int64)), .second, .val (.ref o1), .unset] [(.int (XT.cmpL (16384 : Int64) (4096 : Int64)))])) (fun X t q => XT.lcmp X.here C.hx rfl (hb C.hby d3_9) rfl q) ?_
  refine Wk.st (g' := (mkF m 13 #[.val (.ref o0), .val (.long (16384 : Int64)), .second, .val (.ref o1), .unset] [])) (fun X t q => XS.ifNo X.here C.hx rfl (hb C.hby d3_10) rfl (XT.ll_le_f (by decide)) q) ?_
  refine Wk.st (g' := (mkF m 14 #[.val (.ref o0), .val (.long (16384 : Int64)), .second, .val (.ref o1), .unset] [(.long (16384 : Int64))])) (fun X t q => XS.lloadN X.here C.hx rfl (hb C.hby d3_13) rfl q) ?_
  refine Wk.st (g' := (mkF m 15 #[.val (.ref o0), .val (.long (16384 : Int64)), .second, .val (.ref o1), .unset] [(.ref o1), (.long (16384 : Int64))])) (fun X t q => XS.aloadN X.here C.hx rfl (hb C.hby d3_14) rfl rfl q) ?_
  refine Wk.callS C (z := (⟨"com/example/torino/torino/ArrayLengths", "checkLength", "(JLjava/lang/String;)V"⟩ : MethodName)) (hw _ (List.mem_of_getElem? (i := 31) rfl)) (hw _ (List.mem_of_getElem? (i := 32) rfl)) (hw _ (List.mem_of_getElem? (i := 33) rfl)) (hw _ (List.mem_of_getElem? (i := 34) rfl)) (by decide) (own_4_2 l Z a0 hw n0 h0 hsz o1    ) (w := 0) (by decide) (by decide) pd_1 rfl (rest := []) rfl rfl (Nat.le_of_eq rfl) (by decide) (by decide) d3_15 ?_
  rintro _ _ ⟨rfl, rfl⟩
  show Wk _ p l e _ s m _ below meth c n0 _ h0 0 0 (mkF m 18 #[.val (.ref o0), .val (.long (16384 : Int64)), .second, .val (.ref o1), .unset] [])
  refine Wk.st (g' := (mkF m 19 #[.val (.ref o0), .val (.long (16384 : Int64)), .second, .val (.ref o1), .unset] [(.long (16384 : Int64))])) (fun X t q => XS.lloadN X.here C.hx rfl (hb C.hby d3_18) rfl q) ?_
  refine Wk.ldc2J C (hw _ (List.mem_of_getElem? (i := 36) rfl)) d3_19 ?_
  show Wk _ p l e _ s m _ below meth c n0 _ h0 0 0 (mkF m 22 #[.val (.ref o0), .val (.long (16384 : Int64)), .second, .val (.ref o1), .unset] [(.long (4095 : Int64)), (.long (16384 : Int64))])
  refine Wk.st (g' := (mkF m 23 #[.val (.ref o0), .val (.long (16384 : Int64)), .second, .val (.ref o1), .unset] [(.long (20479 : Int64))])) (fun X t q => XS.ladd X.here C.hx rfl (hb C.hby d3_22) rfl q) ?_
  refine Wk.st (g' := (mkF m 25 #[.val (.ref o0), .val (.long (16384 : Int64)), .second, .val (.ref o1), .unset] [(.int (12 : Int32)), (.long (20479 : Int64))])) (fun X t q => XS.bipush X.here C.hx rfl (hb C.hby d3_23) q) ?_
  refine Wk.st (g' := (mkF m 26 #[.val (.ref o0), .val (.long (16384 : Int64)), .second, .val (.ref o1), .unset] [(.long (4 : Int64))])) (fun X t q => XS.lushr X.here C.hx rfl (hb C.hby d3_25) rfl q) ?_
  refine Wk.st (g' := (mkF m 27 #[.val (.ref o0), .val (.long (16384 : Int64)), .second, .val (.ref o1), .unset] [(.int (4 : Int32))])) (fun X t q => XS.l2i X.here C.hx rfl (hb C.hby d3_26) rfl q) ?_
  refine Wk.st (g' := (mkF m 29 #[.val (.ref o0), .val (.long (16384 : Int64)), .second, .val (.ref o1), .val (.int (4 : Int32))] [])) (fun X t q => XS.istore X.here C.hx rfl (hb C.hby d3_27) rfl (l' := #[.val (.ref o0), .val (.long (16384 : Int64)), .second, .val (.ref o1), .val (.int (4 : Int32))]) rfl q) ?_
  refine Wk.st (g' := (mkF m 31 #[.val (.ref o0), .val (.long (16384 : Int64)), .second, .val (.ref o1), .val (.int (4 : Int32))] [(.int (4 : Int32))])) (fun X t q => XS.iload X.here C.hx rfl (hb C.hby d3_29) rfl q) ?_
  refine Wk.st (g' := (mkF m 32 #[.val (.ref o0), .val (.long (16384 : Int64)), .second, .val (.ref o1), .val (.int (4 : Int32))] [(.ref o0), (.int (4 : Int32))])) (fun X t q => XS.aloadN X.here C.hx rfl (hb C.hby d3_31) rfl rfl q) ?_
  refine Wk.getF C (hw _ (List.mem_of_getElem? (i := 11) rfl)) Via.refl P2 d3_32 ?_
  show Wk _ p l e _ s m _ below meth c n0 _ h0 0 0 (mkF m 35 #[.val (.ref o0), .val (.long (16384 : Int64)), .second, .val (.ref o1), .val (.int (4 : Int32))] [(.ref o2), (.int (4 : Int32))])
  refine Wk.fLenA C P5 (z := (16 : Int32)) (by decide) d3_35 ?_
  show Wk _ p l e _ s m _ below meth c n0 _ h0 0 0 (mkF m 36 #[.val (.ref o0), .val (.long (16384 : Int64)), .second, .val (.ref o1), .val (.int (4 : Int32))] [(.int (16 : Int32)), (.int (4 : Int32))])
  refine Wk.st (g' := (mkF m 68 #[.val (.ref o0), .val (.long (16384 : Int64)), .second, .val (.ref o1), .val (.int (4 : Int32))] [])) (fun X t q => XS.icmpYes X.here C.hx rfl (pc0 := 36) (pc' := 68) rfl (hb C.hby d3_36) rfl (XT.ii_le_t (by decide)) (by decide) (by decide) q) ?_
  refine Wk.st (g' := (mkF m 69 #[.val (.ref o0), .val (.long (16384 : Int64)), .second, .val (.ref o1), .val (.int (4 : Int32))] [(.ref o0)])) (fun X t q => XS.aloadN X.here C.hx rfl (hb C.hby d3_68) rfl rfl q) ?_
  refine Wk.getF C (hw _ (List.mem_of_getElem? (i := 15) rfl)) Via.refl P6 d3_69 ?_
  show Wk _ p l e _ s m _ below meth c n0 _ h0 0 0 (mkF m 72 #[.val (.ref o0), .val (.long (16384 : Int64)), .second, .val (.ref o1), .val (.int (4 : Int32))] [(.int (1 : Int32))])
  refine Wk.st (g' := (mkF m 74 #[.val (.ref o0), .val (.long (16384 : Int64)), .second, .val (.ref o1), .val (.int (4 : Int32))] [(.int (4 : Int32)), (.int (1 : Int32))])) (fun X t q => XS.iload X.here C.hx rfl (hb C.hby d3_72) rfl q) ?_
  refine Wk.st (g' := (mkF m 77 #[.val (.ref o0), .val (.long (16384 : Int64)), .second, .val (.ref o1), .val (.int (4 : Int32))] [])) (fun X t q => XS.icmpNo X.here C.hx rfl (hb C.hby d3_74) rfl (XT.ii_ge_f (by decide)) q) ?_
  refine Wk.st (g' := (mkF m 78 #[.val (.ref o0), .val (.long (16384 : Int64)), .second, .val (.ref o1), .val (.int (4 : Int32))] [(.ref o0)])) (fun X t q => XS.aloadN X.here C.hx rfl (hb C.hby d3_77) rfl rfl q) ?_
  refine Wk.getF C (hw _ (List.mem_of_getElem? (i := 11) rfl)) Via.refl P2 d3_78 ?_
  show Wk _ p l e _ s m _ below meth c n0 _ h0 0 0 (mkF m 81 #[.val (.ref o0), .val (.long (16384 : Int64)), .second, .val (.ref o1), .val (.int (4 : Int32))] [(.ref o2)])
  refine Wk.st (g' := (mkF m 82 #[.val (.ref o0), .val (.long (16384 : Int64)), .second, .val (.ref o1), .val (.int (4 : Int32))] [(.ref o0), (.ref o2)])) (fun X t q => XS.aloadN X.here C.hx rfl (hb C.hby d3_81) rfl rfl q) ?_
  refine Wk.getF C (hw _ (List.mem_of_getElem? (i := 15) rfl)) Via.refl P6 d3_82 ?_
  show Wk _ p l e _ s m _ below meth c n0 _ h0 0 0 (mkF m 85 #[.val (.ref o0), .val (.long (16384 : Int64)), .second, .val (.ref o1), .val (.int (4 : Int32))] [(.int (1 : Int32)), (.ref o2)])
  refine Wk.st (g' := (mkF m 88 #[.val (.ref o0), .val (.long (16384 : Int64)), .second, .val (.ref o1), .val (.int (4 : Int32))] [(.int (4096 : Int32)), (.int (1 : Int32)), (.ref o2)])) (fun X t q => XS.sipush X.here C.hx rfl (hb C.hby d3_85) q) ?_
  refine Wk.fNewP C (hw _ (List.mem_of_getElem? (i := 13) rfl)) (ty := .int) (dv := (.int (0 : Int32))) (N := 4096) (ad := "[I") rfl rfl (by decide) (by decide) (by decide) (cap := 4096) (by decide) (by decide) d3_88 (by decide) (by decide) ?_
  intro h3 b4 g5 E6 A7 F8
  have ne9 : o0 ≠ b4 := Nat.ne_of_lt (Nat.lt_of_lt_of_le P0.lt (Nat.le_of_eq g5.symm))
  have ne10 : o2 ≠ b4 := Nat.ne_of_lt (Nat.lt_of_lt_of_le P1.lt (Nat.le_of_eq g5.symm))
  have ne11 : o3 ≠ b4 := Nat.ne_of_lt (Nat.lt_of_lt_of_le P3.lt (Nat.le_of_eq g5.symm))
  have ge12 : n0 ≤ b4 := Nat.le_trans hsz (Nat.le_of_eq g5.symm)
  have gz13 : h0.size ≤ b4 := Nat.le_trans (Nat.le_refl h0.size) (Nat.le_of_eq g5.symm)
  have F14 : Exa Z h3 o0 "com/example/torino/torino/IntBlocks" := P0.ext E6
  have F15 : Exa Z h3 o2 "[[I" := P1.ext E6
  have F16 : Fld Z h3 o0 "com/example/torino/torino/IntBlocks" "blocks" "[[I" (.ref o2) := P2.ext E6
  have F17 : Exa Z h3 o3 "[I" := P3.ext E6
  have F18 : Fa Z h3 o3 .int 4096 (fun _ => (.int (0 : Int32))) := P4.ext E6
  have F19 : FaA Z h3 o2 .int "[I" 16 (up (fun _ => .null) 0 (.ref o3)) := P5.ext E6
  have F20 : Fld Z h3 o0 "com/example/torino/torino/IntBlocks" "blockCount" "I" (.int (1 : Int32)) := P6.ext E6
  have sz21 : n0 ≤ h3.size := Nat.le_trans hsz E6.1
  have sy22 : h0.size ≤ h3.size := Nat.le_trans (Nat.le_refl h0.size) E6.1
  have K23 := (Keep.refl h0 [o0, o2]).ext E6
  show Wk _ p l e _ s m _ below meth c n0 _ h3 1 4096 (mkF m 90 #[.val (.ref o0), .val (.long (16384 : Int64)), .second, .val (.ref o1), .val (.int (4 : Int32))] [(.ref b4), (.int (1 : Int32)), (.ref o2)])
  refine Wk.fStA C F19 (i := 1) (by decide) (by decide) (by decide) (F19.sto A7) G_o2 d3_90 ?_
  intro h24 W25 F26
  have F27 : Exa Z h24 o0 "com/example/torino/torino/IntBlocks" := F14.wr W25
  have F28 : Exa Z h24 o2 "[[I" := F15.wr W25
  have F29 : Fld Z h24 o0 "com/example/torino/torino/IntBlocks" "blocks" "[[I" (.ref o2) := F16.other W25 (Or.inl N_o0_o2)
  have F30 : Exa Z h24 o3 "[I" := F17.wr W25
  have F31 : Fa Z h24 o3 .int 4096 (fun _ => (.int (0 : Int32))) := F18.other W25 (Ne.symm N_o2_o3)
  have F32 : Fld Z h24 o0 "com/example/torino/torino/IntBlocks" "blockCount" "I" (.int (1 : Int32)) := F20.other W25 (Or.inl N_o0_o2)
  have F33 : Exa Z h24 b4 "[I" := A7.wr W25
  have F34 : Fa Z h24 b4 .int 4096 (fun _ => (.int (0 : Int32))) := F8.other W25 (Ne.symm ne10)
  have sz35 : n0 ≤ h24.size := Nat.le_trans sz21 (Nat.le_of_eq W25.size.symm)
  have sy36 : h0.size ≤ h24.size := Nat.le_trans sy22 (Nat.le_of_eq W25.size.symm)
  have K37 := K23.wr W25 (Or.inl (by simp))
  show Wk _ p l e _ s m _ below meth c n0 _ h24 1 4096 (mkF m 91 #[.val (.ref o0), .val (.long (16384 : Int64)), .second, .val (.ref o1), .val (.int (4 : Int32))] [])
  refine Wk.st (g' := (mkF m 92 #[.val (.ref o0), .val (.long (16384 : Int64)), .second, .val (.ref o1), .val (.int (4 : Int32))] [(.ref o0)])) (fun X t q => XS.aloadN X.here C.hx rfl (hb C.hby d3_91) rfl rfl q) ?_
  refine Wk.st (g' := (mkF m 93 #[.val (.ref o0), .val (.long (16384 : Int64)), .second, .val (.ref o1), .val (.int (4 : Int32))] [(.ref o0), (.ref o0)])) (fun X t q => XS.dup X.here C.hx rfl (hb C.hby d3_92) rfl rfl q) ?_
  refine Wk.getF C (hw _ (List.mem_of_getElem? (i := 15) rfl)) Via.refl F32 d3_93 ?_
  show Wk _ p l e _ s m _ below meth c n0 _ h24 1 4096 (mkF m 96 #[.val (.ref o0), .val (.long (16384 : Int64)), .second, .val (.ref o1), .val (.int (4 : Int32))] [(.int (1 : Int32)), (.ref o0)])
  refine Wk.st (g' := (mkF m 97 #[.val (.ref o0), .val (.long (16384 : Int64)), .second, .val (.ref o1), .val (.int (4 : Int32))] [(.int (1 : Int32)), (.int (1 : Int32)), (.ref o0)])) (fun X t q => XS.iconst X.here C.hx rfl (hb C.hby d3_96) q) ?_
  refine Wk.st (g' := (mkF m 98 #[.val (.ref o0), .val (.long (16384 : Int64)), .second, .val (.ref o1), .val (.int (4 : Int32))] [(.int (2 : Int32)), (.ref o0)])) (fun X t q => XS.iadd X.here C.hx rfl (hb C.hby d3_97) rfl q) ?_
  refine Wk.putF C (hw _ (List.mem_of_getElem? (i := 15) rfl)) Via.refl F32 F27 (Or.inl (hw _ (List.mem_of_getElem? (i := 16) rfl))) (hw _ (List.mem_of_getElem? (i := 1) rfl)) (ty := .int) (by decide) (v' := (.int (2 : Int32))) rfl rfl G_o0 d3_98 ?_
  intro h38 W39
  have F40 : Fld Z h38 o0 "com/example/torino/torino/IntBlocks" "blockCount" "I" (.int (2 : Int32)) := F32.same W39
  have F41 : Exa Z h38 o0 "com/example/torino/torino/IntBlocks" := F27.wr W39
  have F42 : Exa Z h38 o2 "[[I" := F28.wr W39
  have F43 : Fld Z h38 o0 "com/example/torino/torino/IntBlocks" "blocks" "[[I" (.ref o2) := F29.other W39 (Or.inr (slot_ne (Or.inl (hw _ (List.mem_of_getElem? (i := 12) rfl))) (Or.inl (hw _ (List.mem_of_getElem? (i := 16) rfl))) (by decide) (t := (.array (.array .int))) (t' := .int) (by decide) (by decide)))
  have F44 : Exa Z h38 o3 "[I" := F30.wr W39
  have F45 : Fa Z h38 o3 .int 4096 (fun _ => (.int (0 : Int32))) := F31.other W39 (Ne.symm N_o0_o3)
  have F46 : Exa Z h38 b4 "[I" := F33.wr W39
  have F47 : Fa Z h38 b4 .int 4096 (fun _ => (.int (0 : Int32))) := F34.other W39 (Ne.symm ne9)
  have F48 : FaA Z h38 o2 .int "[I" 16 (up (up (fun _ => .null) 0 (.ref o3)) 1 (.ref b4)) := F26.other W39 (Ne.symm N_o0_o2)
  have sz49 : n0 ≤ h38.size := Nat.le_trans sz35 (Nat.le_of_eq W39.size.symm)
  have sy50 : h0.size ≤ h38.size := Nat.le_trans sy36 (Nat.le_of_eq W39.size.symm)
  have K51 := K37.wr W39 (Or.inl (by simp))
  show Wk _ p l e _ s m _ below meth c n0 _ h38 1 4096 (mkF m 101 #[.val (.ref o0), .val (.long (16384 : Int64)), .second, .val (.ref o1), .val (.int (4 : Int32))] [])
  refine Wk.st (g' := (mkF m 68 #[.val (.ref o0), .val (.long (16384 : Int64)), .second, .val (.ref o1), .val (.int (4 : Int32))] [])) (fun X t q => XS.goto X.here C.hx rfl (pc0 := 101) (pc' := 68) rfl (hb C.hby d3_101) (by decide) (by decide) q) ?_
  refine Wk.st (g' := (mkF m 69 #[.val (.ref o0), .val (.long (16384 : Int64)), .second, .val (.ref o1), .val (.int (4 : Int32))] [(.ref o0)])) (fun X t q => XS.aloadN X.here C.hx rfl (hb C.hby d3_68) rfl rfl q) ?_
  refine Wk.getF C (hw _ (List.mem_of_getElem? (i := 15) rfl)) Via.refl F40 d3_69 ?_
  show Wk _ p l e _ s m _ below meth c n0 _ h38 1 4096 (mkF m 72 #[.val (.ref o0), .val (.long (16384 : Int64)), .second, .val (.ref o1), .val (.int (4 : Int32))] [(.int (2 : Int32))])
  refine Wk.st (g' := (mkF m 74 #[.val (.ref o0), .val (.long (16384 : Int64)), .second, .val (.ref o1), .val (.int (4 : Int32))] [(.int (4 : Int32)), (.int (2 : Int32))])) (fun X t q => XS.iload X.here C.hx rfl (hb C.hby d3_72) rfl q) ?_
  refine Wk.st (g' := (mkF m 77 #[.val (.ref o0), .val (.long (16384 : Int64)), .second, .val (.ref o1), .val (.int (4 : Int32))] [])) (fun X t q => XS.icmpNo X.here C.hx rfl (hb C.hby d3_74) rfl (XT.ii_ge_f (by decide)) q) ?_
  refine Wk.st (g' := (mkF m 78 #[.val (.ref o0), .val (.long (16384 : Int64)), .second, .val (.ref o1), .val (.int (4 : Int32))] [(.ref o0)])) (fun X t q => XS.aloadN X.here C.hx rfl (hb C.hby d3_77) rfl rfl q) ?_
  refine Wk.getF C (hw _ (List.mem_of_getElem? (i := 11) rfl)) Via.refl F43 d3_78 ?_
  show Wk _ p l e _ s m _ below meth c n0 _ h38 1 4096 (mkF m 81 #[.val (.ref o0), .val (.long (16384 : Int64)), .second, .val (.ref o1), .val (.int (4 : Int32))] [(.ref o2)])
  refine Wk.st (g' := (mkF m 82 #[.val (.ref o0), .val (.long (16384 : Int64)), .second, .val (.ref o1), .val (.int (4 : Int32))] [(.ref o0), (.ref o2)])) (fun X t q => XS.aloadN X.here C.hx rfl (hb C.hby d3_81) rfl rfl q) ?_
  refine Wk.getF C (hw _ (List.mem_of_getElem? (i := 15) rfl)) Via.refl F40 d3_82 ?_
  show Wk _ p l e _ s m _ below meth c n0 _ h38 1 4096 (mkF m 85 #[.val (.ref o0), .val (.long (16384 : Int64)), .second, .val (.ref o1), .val (.int (4 : Int32))] [(.int (2 : Int32)), (.ref o2)])
  refine Wk.st (g' := (mkF m 88 #[.val (.ref o0), .val (.long (16384 : Int64)), .second, .val (.ref o1), .val (.int (4 : Int32))] [(.int (4096 : Int32)), (.int (2 : Int32)), (.ref o2)])) (fun X t q => XS.sipush X.here C.hx rfl (hb C.hby d3_85) q) ?_
  refine Wk.fNewP C (hw _ (List.mem_of_getElem? (i := 13) rfl)) (ty := .int) (dv := (.int (0 : Int32))) (N := 4096) (ad := "[I") rfl rfl (by decide) (by decide) (by decide) (cap := 4096) (by decide) (by decide) d3_88 (by decide) (by decide) ?_
  intro h52 b53 g54 E55 A56 F57
  have ne58 : o0 ≠ b53 := Nat.ne_of_lt (Nat.lt_of_lt_of_le F41.lt (Nat.le_of_eq g54.symm))
  have ne59 : o2 ≠ b53 := Nat.ne_of_lt (Nat.lt_of_lt_of_le F42.lt (Nat.le_of_eq g54.symm))
  have ne60 : o3 ≠ b53 := Nat.ne_of_lt (Nat.lt_of_lt_of_le F44.lt (Nat.le_of_eq g54.symm))
  have ne61 : b4 ≠ b53 := Nat.ne_of_lt (Nat.lt_of_lt_of_le F46.lt (Nat.le_of_eq g54.symm))
  have ge62 : n0 ≤ b53 := Nat.le_trans sz49 (Nat.le_of_eq g54.symm)
  have gz63 : h0.size ≤ b53 := Nat.le_trans sy50 (Nat.le_of_eq g54.symm)
  have F64 : Exa Z h52 o0 "com/example/torino/torino/IntBlocks" := F41.ext E55
  have F65 : Exa Z h52 o2 "[[I" := F42.ext E55
  have F66 : Fld Z h52 o0 "com/example/torino/torino/IntBlocks" "blocks" "[[I" (.ref o2) := F43.ext E55
  have F67 : Exa Z h52 o3 "[I" := F44.ext E55
  have F68 : Fa Z h52 o3 .int 4096 (fun _ => (.int (0 : Int32))) := F45.ext E55
  have F69 : Exa Z h52 b4 "[I" := F46.ext E55
  have F70 : Fa Z h52 b4 .int 4096 (fun _ => (.int (0 : Int32))) := F47.ext E55
  have F71 : FaA Z h52 o2 .int "[I" 16 (up (up (fun _ => .null) 0 (.ref o3)) 1 (.ref b4)) := F48.ext E55
  have F72 : Fld Z h52 o0 "com/example/torino/torino/IntBlocks" "blockCount" "I" (.int (2 : Int32)) := F40.ext E55
  have sz73 : n0 ≤ h52.size := Nat.le_trans sz49 E55.1
  have sy74 : h0.size ≤ h52.size := Nat.le_trans sy50 E55.1
  have K75 := K51.ext E55
  show Wk _ p l e _ s m _ below meth c n0 _ h52 2 8192 (mkF m 90 #[.val (.ref o0), .val (.long (16384 : Int64)), .second, .val (.ref o1), .val (.int (4 : Int32))] [(.ref b53), (.int (2 : Int32)), (.ref o2)])
  refine Wk.fStA C F71 (i := 2) (by decide) (by decide) (by decide) (F71.sto A56) G_o2 d3_90 ?_
  intro h76 W77 F78
  have F79 : Exa Z h76 o0 "com/example/torino/torino/IntBlocks" := F64.wr W77
  have F80 : Exa Z h76 o2 "[[I" := F65.wr W77
  have F81 : Fld Z h76 o0 "com/example/torino/torino/IntBlocks" "blocks" "[[I" (.ref o2) := F66.other W77 (Or.inl N_o0_o2)
  have F82 : Exa Z h76 o3 "[I" := F67.wr W77
  have F83 : Fa Z h76 o3 .int 4096 (fun _ => (.int (0 : Int32))) := F68.other W77 (Ne.symm N_o2_o3)
  have F84 : Exa Z h76 b4 "[I" := F69.wr W77
  have F85 : Fa Z h76 b4 .int 4096 (fun _ => (.int (0 : Int32))) := F70.other W77 (Ne.symm ne10)
  have F86 : Fld Z h76 o0 "com/example/torino/torino/IntBlocks" "blockCount" "I" (.int (2 : Int32)) := F72.other W77 (Or.inl N_o0_o2)
  have F87 : Exa Z h76 b53 "[I" := A56.wr W77
  have F88 : Fa Z h76 b53 .int 4096 (fun _ => (.int (0 : Int32))) := F57.other W77 (Ne.symm ne59)
  have sz89 : n0 ≤ h76.size := Nat.le_trans sz73 (Nat.le_of_eq W77.size.symm)
  have sy90 : h0.size ≤ h76.size := Nat.le_trans sy74 (Nat.le_of_eq W77.size.symm)
  have K91 := K75.wr W77 (Or.inl (by simp))
  show Wk _ p l e _ s m _ below meth c n0 _ h76 2 8192 (mkF m 91 #[.val (.ref o0), .val (.long (16384 : Int64)), .second, .val (.ref o1), .val (.int (4 : Int32))] [])
  refine Wk.st (g' := (mkF m 92 #[.val (.ref o0), .val (.long (16384 : Int64)), .second, .val (.ref o1), .val (.int (4 : Int32))] [(.ref o0)])) (fun X t q => XS.aloadN X.here C.hx rfl (hb C.hby d3_91) rfl rfl q) ?_
  refine Wk.st (g' := (mkF m 93 #[.val (.ref o0), .val (.long (16384 : Int64)), .second, .val (.ref o1), .val (.int (4 : Int32))] [(.ref o0), (.ref o0)])) (fun X t q => XS.dup X.here C.hx rfl (hb C.hby d3_92) rfl rfl q) ?_
  refine Wk.getF C (hw _ (List.mem_of_getElem? (i := 15) rfl)) Via.refl F86 d3_93 ?_
  show Wk _ p l e _ s m _ below meth c n0 _ h76 2 8192 (mkF m 96 #[.val (.ref o0), .val (.long (16384 : Int64)), .second, .val (.ref o1), .val (.int (4 : Int32))] [(.int (2 : Int32)), (.ref o0)])
  refine Wk.st (g' := (mkF m 97 #[.val (.ref o0), .val (.long (16384 : Int64)), .second, .val (.ref o1), .val (.int (4 : Int32))] [(.int (1 : Int32)), (.int (2 : Int32)), (.ref o0)])) (fun X t q => XS.iconst X.here C.hx rfl (hb C.hby d3_96) q) ?_
  refine Wk.st (g' := (mkF m 98 #[.val (.ref o0), .val (.long (16384 : Int64)), .second, .val (.ref o1), .val (.int (4 : Int32))] [(.int (3 : Int32)), (.ref o0)])) (fun X t q => XS.iadd X.here C.hx rfl (hb C.hby d3_97) rfl q) ?_
  refine Wk.putF C (hw _ (List.mem_of_getElem? (i := 15) rfl)) Via.refl F86 F79 (Or.inl (hw _ (List.mem_of_getElem? (i := 16) rfl))) (hw _ (List.mem_of_getElem? (i := 1) rfl)) (ty := .int) (by decide) (v' := (.int (3 : Int32))) rfl rfl G_o0 d3_98 ?_
  intro h92 W93
  have F94 : Fld Z h92 o0 "com/example/torino/torino/IntBlocks" "blockCount" "I" (.int (3 : Int32)) := F86.same W93
  have F95 : Exa Z h92 o0 "com/example/torino/torino/IntBlocks" := F79.wr W93
  have F96 : Exa Z h92 o2 "[[I" := F80.wr W93
  have F97 : Fld Z h92 o0 "com/example/torino/torino/IntBlocks" "blocks" "[[I" (.ref o2) := F81.other W93 (Or.inr (slot_ne (Or.inl (hw _ (List.mem_of_getElem? (i := 12) rfl))) (Or.inl (hw _ (List.mem_of_getElem? (i := 16) rfl))) (by decide) (t := (.array (.array .int))) (t' := .int) (by decide) (by decide)))
  have F98 : Exa Z h92 o3 "[I" := F82.wr W93
  have F99 : Fa Z h92 o3 .int 4096 (fun _ => (.int (0 : Int32))) := F83.other W93 (Ne.symm N_o0_o3)
  have F100 : Exa Z h92 b4 "[I" := F84.wr W93
  have F101 : Fa Z h92 b4 .int 4096 (fun _ => (.int (0 : Int32))) := F85.other W93 (Ne.symm ne9)
  have F102 : Exa Z h92 b53 "[I" := F87.wr W93
  have F103 : Fa Z h92 b53 .int 4096 (fun _ => (.int (0 : Int32))) := F88.other W93 (Ne.symm ne58)
  have F104 : FaA Z h92 o2 .int "[I" 16 (up (up (up (fun _ => .null) 0 (.ref o3)) 1 (.ref b4)) 2 (.ref b53)) := F78.other W93 (Ne.symm N_o0_o2)
  have sz105 : n0 ≤ h92.size := Nat.le_trans sz89 (Nat.le_of_eq W93.size.symm)
  have sy106 : h0.size ≤ h92.size := Nat.le_trans sy90 (Nat.le_of_eq W93.size.symm)
  have K107 := K91.wr W93 (Or.inl (by simp))
  show Wk _ p l e _ s m _ below meth c n0 _ h92 2 8192 (mkF m 101 #[.val (.ref o0), .val (.long (16384 : Int64)), .second, .val (.ref o1), .val (.int (4 : Int32))] [])
  refine Wk.st (g' := (mkF m 68 #[.val (.ref o0), .val (.long (16384 : Int64)), .second, .val (.ref o1), .val (.int (4 : Int32))] [])) (fun X t q => XS.goto X.here C.hx rfl (pc0 := 101) (pc' := 68) rfl (hb C.hby d3_101) (by decide) (by decide) q) ?_
  refine Wk.st (g' := (mkF m 69 #[.val (.ref o0), .val (.long (16384 : Int64)), .second, .val (.ref o1), .val (.int (4 : Int32))] [(.ref o0)])) (fun X t q => XS.aloadN X.here C.hx rfl (hb C.hby d3_68) rfl rfl q) ?_
  refine Wk.getF C (hw _ (List.mem_of_getElem? (i := 15) rfl)) Via.refl F94 d3_69 ?_
  show Wk _ p l e _ s m _ below meth c n0 _ h92 2 8192 (mkF m 72 #[.val (.ref o0), .val (.long (16384 : Int64)), .second, .val (.ref o1), .val (.int (4 : Int32))] [(.int (3 : Int32))])
  refine Wk.st (g' := (mkF m 74 #[.val (.ref o0), .val (.long (16384 : Int64)), .second, .val (.ref o1), .val (.int (4 : Int32))] [(.int (4 : Int32)), (.int (3 : Int32))])) (fun X t q => XS.iload X.here C.hx rfl (hb C.hby d3_72) rfl q) ?_
  refine Wk.st (g' := (mkF m 77 #[.val (.ref o0), .val (.long (16384 : Int64)), .second, .val (.ref o1), .val (.int (4 : Int32))] [])) (fun X t q => XS.icmpNo X.here C.hx rfl (hb C.hby d3_74) rfl (XT.ii_ge_f (by decide)) q) ?_
  refine Wk.st (g' := (mkF m 78 #[.val (.ref o0), .val (.long (16384 : Int64)), .second, .val (.ref o1), .val (.int (4 : Int32))] [(.ref o0)])) (fun X t q => XS.aloadN X.here C.hx rfl (hb C.hby d3_77) rfl rfl q) ?_
  refine Wk.getF C (hw _ (List.mem_of_getElem? (i := 11) rfl)) Via.refl F97 d3_78 ?_
  show Wk _ p l e _ s m _ below meth c n0 _ h92 2 8192 (mkF m 81 #[.val (.ref o0), .val (.long (16384 : Int64)), .second, .val (.ref o1), .val (.int (4 : Int32))] [(.ref o2)])
  refine Wk.st (g' := (mkF m 82 #[.val (.ref o0), .val (.long (16384 : Int64)), .second, .val (.ref o1), .val (.int (4 : Int32))] [(.ref o0), (.ref o2)])) (fun X t q => XS.aloadN X.here C.hx rfl (hb C.hby d3_81) rfl rfl q) ?_
  refine Wk.getF C (hw _ (List.mem_of_getElem? (i := 15) rfl)) Via.refl F94 d3_82 ?_
  show Wk _ p l e _ s m _ below meth c n0 _ h92 2 8192 (mkF m 85 #[.val (.ref o0), .val (.long (16384 : Int64)), .second, .val (.ref o1), .val (.int (4 : Int32))] [(.int (3 : Int32)), (.ref o2)])
  refine Wk.st (g' := (mkF m 88 #[.val (.ref o0), .val (.long (16384 : Int64)), .second, .val (.ref o1), .val (.int (4 : Int32))] [(.int (4096 : Int32)), (.int (3 : Int32)), (.ref o2)])) (fun X t q => XS.sipush X.here C.hx rfl (hb C.hby d3_85) q) ?_
  refine Wk.fNewP C (hw _ (List.mem_of_getElem? (i := 13) rfl)) (ty := .int) (dv := (.int (0 : Int32))) (N := 4096) (ad := "[I") rfl rfl (by decide) (by decide) (by decide) (cap := 4096) (by decide) (by decide) d3_88 (by decide) (by decide) ?_
  intro h108 b109 g110 E111 A112 F113
  have ne114 : o0 ≠ b109 := Nat.ne_of_lt (Nat.lt_of_lt_of_le F95.lt (Nat.le_of_eq g110.symm))
  have ne115 : o2 ≠ b109 := Nat.ne_of_lt (Nat.lt_of_lt_of_le F96.lt (Nat.le_of_eq g110.symm))
  have ne116 : o3 ≠ b109 := Nat.ne_of_lt (Nat.lt_of_lt_of_le F98.lt (Nat.le_of_eq g110.symm))
  have ne117 : b4 ≠ b109 := Nat.ne_of_lt (Nat.lt_of_lt_of_le F100.lt (Nat.le_of_eq g110.symm))
  have ne118 : b53 ≠ b109 := Nat.ne_of_lt (Nat.lt_of_lt_of_le F102.lt (Nat.le_of_eq g110.symm))
  have ge119 : n0 ≤ b109 := Nat.le_trans sz105 (Nat.le_of_eq g110.symm)
  have gz120 : h0.size ≤ b109 := Nat.le_trans sy106 (Nat.le_of_eq g110.symm)
  have F121 : Exa Z h108 o0 "com/example/torino/torino/IntBlocks" := F95.ext E111
  have F122 : Exa Z h108 o2 "[[I" := F96.ext E111
  have F123 : Fld Z h108 o0 "com/example/torino/torino/IntBlocks" "blocks" "[[I" (.ref o2) := F97.ext E111
  have F124 : Exa Z h108 o3 "[I" := F98.ext E111
  have F125 : Fa Z h108 o3 .int 4096 (fun _ => (.int (0 : Int32))) := F99.ext E111
  have F126 : Exa Z h108 b4 "[I" := F100.ext E111
  have F127 : Fa Z h108 b4 .int 4096 (fun _ => (.int (0 : Int32))) := F101.ext E111
  have F128 : Exa Z h108 b53 "[I" := F102.ext E111
  have F129 : Fa Z h108 b53 .int 4096 (fun _ => (.int (0 : Int32))) := F103.ext E111
  have F130 : FaA Z h108 o2 .int "[I" 16 (up (up (up (fun _ => .null) 0 (.ref o3)) 1 (.ref b4)) 2 (.ref b53)) := F104.ext E111
  have F131 : Fld Z h108 o0 "com/example/torino/torino/IntBlocks" "blockCount" "I" (.int (3 : Int32)) := F94.ext E111
  have sz132 : n0 ≤ h108.size := Nat.le_trans sz105 E111.1
  have sy133 : h0.size ≤ h108.size := Nat.le_trans sy106 E111.1
  have K134 := K107.ext E111
  show Wk _ p l e _ s m _ below meth c n0 _ h108 3 12288 (mkF m 90 #[.val (.ref o0), .val (.long (16384 : Int64)), .second, .val (.ref o1), .val (.int (4 : Int32))] [(.ref b109), (.int (3 : Int32)), (.ref o2)])
  refine Wk.fStA C F130 (i := 3) (by decide) (by decide) (by decide) (F130.sto A112) G_o2 d3_90 ?_
  intro h135 W136 F137
  have F138 : Exa Z h135 o0 "com/example/torino/torino/IntBlocks" := F121.wr W136
  have F139 : Exa Z h135 o2 "[[I" := F122.wr W136
  have F140 : Fld Z h135 o0 "com/example/torino/torino/IntBlocks" "blocks" "[[I" (.ref o2) := F123.other W136 (Or.inl N_o0_o2)
  have F141 : Exa Z h135 o3 "[I" := F124.wr W136
  have F142 : Fa Z h135 o3 .int 4096 (fun _ => (.int (0 : Int32))) := F125.other W136 (Ne.symm N_o2_o3)
  have F143 : Exa Z h135 b4 "[I" := F126.wr W136
  have F144 : Fa Z h135 b4 .int 4096 (fun _ => (.int (0 : Int32))) := F127.other W136 (Ne.symm ne10)
  have F145 : Exa Z h135 b53 "[I" := F128.wr W136
  have F146 : Fa Z h135 b53 .int 4096 (fun _ => (.int (0 : Int32))) := F129.other W136 (Ne.symm ne59)
  have F147 : Fld Z h135 o0 "com/example/torino/torino/IntBlocks" "blockCount" "I" (.int (3 : Int32)) := F131.other W136 (Or.inl N_o0_o2)
  have F148 : Exa Z h135 b109 "[I" := A112.wr W136
  have F149 : Fa Z h135 b109 .int 4096 (fun _ => (.int (0 : Int32))) := F113.other W136 (Ne.symm ne115)
  have sz150 : n0 ≤ h135.size := Nat.le_trans sz132 (Nat.le_of_eq W136.size.symm)
  have sy151 : h0.size ≤ h135.size := Nat.le_trans sy133 (Nat.le_of_eq W136.size.symm)
  have K152 := K134.wr W136 (Or.inl (by simp))
  show Wk _ p l e _ s m _ below meth c n0 _ h135 3 12288 (mkF m 91 #[.val (.ref o0), .val (.long (16384 : Int64)), .second, .val (.ref o1), .val (.int (4 : Int32))] [])
  refine Wk.st (g' := (mkF m 92 #[.val (.ref o0), .val (.long (16384 : Int64)), .second, .val (.ref o1), .val (.int (4 : Int32))] [(.ref o0)])) (fun X t q => XS.aloadN X.here C.hx rfl (hb C.hby d3_91) rfl rfl q) ?_
  refine Wk.st (g' := (mkF m 93 #[.val (.ref o0), .val (.long (16384 : Int64)), .second, .val (.ref o1), .val (.int (4 : Int32))] [(.ref o0), (.ref o0)])) (fun X t q => XS.dup X.here C.hx rfl (hb C.hby d3_92) rfl rfl q) ?_
  refine Wk.getF C (hw _ (List.mem_of_getElem? (i := 15) rfl)) Via.refl F147 d3_93 ?_
  show Wk _ p l e _ s m _ below meth c n0 _ h135 3 12288 (mkF m 96 #[.val (.ref o0), .val (.long (16384 : Int64)), .second, .val (.ref o1), .val (.int (4 : Int32))] [(.int (3 : Int32)), (.ref o0)])
  refine Wk.st (g' := (mkF m 97 #[.val (.ref o0), .val (.long (16384 : Int64)), .second, .val (.ref o1), .val (.int (4 : Int32))] [(.int (1 : Int32)), (.int (3 : Int32)), (.ref o0)])) (fun X t q => XS.iconst X.here C.hx rfl (hb C.hby d3_96) q) ?_
  refine Wk.st (g' := (mkF m 98 #[.val (.ref o0), .val (.long (16384 : Int64)), .second, .val (.ref o1), .val (.int (4 : Int32))] [(.int (4 : Int32)), (.ref o0)])) (fun X t q => XS.iadd X.here C.hx rfl (hb C.hby d3_97) rfl q) ?_
  refine Wk.putF C (hw _ (List.mem_of_getElem? (i := 15) rfl)) Via.refl F147 F138 (Or.inl (hw _ (List.mem_of_getElem? (i := 16) rfl))) (hw _ (List.mem_of_getElem? (i := 1) rfl)) (ty := .int) (by decide) (v' := (.int (4 : Int32))) rfl rfl G_o0 d3_98 ?_
  intro h153 W154
  have F155 : Fld Z h153 o0 "com/example/torino/torino/IntBlocks" "blockCount" "I" (.int (4 : Int32)) := F147.same W154
  have F156 : Exa Z h153 o0 "com/example/torino/torino/IntBlocks" := F138.wr W154
  have F157 : Exa Z h153 o2 "[[I" := F139.wr W154
  have F158 : Fld Z h153 o0 "com/example/torino/torino/IntBlocks" "blocks" "[[I" (.ref o2) := F140.other W154 (Or.inr (slot_ne (Or.inl (hw _ (List.mem_of_getElem? (i := 12) rfl))) (Or.inl (hw _ (List.mem_of_getElem? (i := 16) rfl))) (by decide) (t := (.array (.array .int))) (t' := .int) (by decide) (by decide)))
  have F159 : Exa Z h153 o3 "[I" := F141.wr W154
  have F160 : Fa Z h153 o3 .int 4096 (fun _ => (.int (0 : Int32))) := F142.other W154 (Ne.symm N_o0_o3)
  have F161 : Exa Z h153 b4 "[I" := F143.wr W154
  have F162 : Fa Z h153 b4 .int 4096 (fun _ => (.int (0 : Int32))) := F144.other W154 (Ne.symm ne9)
  have F163 : Exa Z h153 b53 "[I" := F145.wr W154
  have F164 : Fa Z h153 b53 .int 4096 (fun _ => (.int (0 : Int32))) := F146.other W154 (Ne.symm ne58)
  have F165 : Exa Z h153 b109 "[I" := F148.wr W154
  have F166 : Fa Z h153 b109 .int 4096 (fun _ => (.int (0 : Int32))) := F149.other W154 (Ne.symm ne114)
  have F167 : FaA Z h153 o2 .int "[I" 16 (up (up (up (up (fun _ => .null) 0 (.ref o3)) 1 (.ref b4)) 2 (.ref b53)) 3 (.ref b109)) := F137.other W154 (Ne.symm N_o0_o2)
  have sz168 : n0 ≤ h153.size := Nat.le_trans sz150 (Nat.le_of_eq W154.size.symm)
  have sy169 : h0.size ≤ h153.size := Nat.le_trans sy151 (Nat.le_of_eq W154.size.symm)
  have K170 := K152.wr W154 (Or.inl (by simp))
  show Wk _ p l e _ s m _ below meth c n0 _ h153 3 12288 (mkF m 101 #[.val (.ref o0), .val (.long (16384 : Int64)), .second, .val (.ref o1), .val (.int (4 : Int32))] [])
  refine Wk.st (g' := (mkF m 68 #[.val (.ref o0), .val (.long (16384 : Int64)), .second, .val (.ref o1), .val (.int (4 : Int32))] [])) (fun X t q => XS.goto X.here C.hx rfl (pc0 := 101) (pc' := 68) rfl (hb C.hby d3_101) (by decide) (by decide) q) ?_
  refine Wk.st (g' := (mkF m 69 #[.val (.ref o0), .val (.long (16384 : Int64)), .second, .val (.ref o1), .val (.int (4 : Int32))] [(.ref o0)])) (fun X t q => XS.aloadN X.here C.hx rfl (hb C.hby d3_68) rfl rfl q) ?_
  refine Wk.getF C (hw _ (List.mem_of_getElem? (i := 15) rfl)) Via.refl F155 d3_69 ?_
  show Wk _ p l e _ s m _ below meth c n0 _ h153 3 12288 (mkF m 72 #[.val (.ref o0), .val (.long (16384 : Int64)), .second, .val (.ref o1), .val (.int (4 : Int32))] [(.int (4 : Int32))])
  refine Wk.st (g' := (mkF m 74 #[.val (.ref o0), .val (.long (16384 : Int64)), .second, .val (.ref o1), .val (.int (4 : Int32))] [(.int (4 : Int32)), (.int (4 : Int32))])) (fun X t q => XS.iload X.here C.hx rfl (hb C.hby d3_72) rfl q) ?_
  refine Wk.st (g' := (mkF m 104 #[.val (.ref o0), .val (.long (16384 : Int64)), .second, .val (.ref o1), .val (.int (4 : Int32))] [])) (fun X t q => XS.icmpYes X.here C.hx rfl (pc0 := 74) (pc' := 104) rfl (hb C.hby d3_74) rfl (XT.ii_ge_t (by decide)) (by decide) (by decide) q) ?_
  exact Wk.retN0 C rfl d3_104 (by decide) (by decide) ⟨b4, b53, b109, rfl, K170, gz13, gz63, gz120, ne61, ne117, ne118, F158, F161, F162, F163, F164, F165, F166, F167, F155⟩
set_option maxRecDepth 65536 in
set_option maxHeartbeats 40000000 in
theorem law_met (l : Launch) (Z : State) (a0 : Array Value) (hw : ∀ d ∈ tables_1, d.before a0 Z = true) (n0 : Nat) (h0 : Heap) (hsz : n0 ≤ h0.size) (i0 i1 i2 i3 i4 : Int32) :
    Met true l Z n0 x code maxLocals ret room_1 #[(.int i0), (.int i1), (.int i2), (.int i3), (.int i4)] h0 (fun v _ => v = some (.int 1) ∧ True) := by
  refine Met.of pn_1 #[.val (.int i0), .val (.int i1), .val (.int i2), .val (.int i3), .val (.int i4), .unset, .unset, .unset, .unset, .unset, .unset, .unset] (fun m => by first | (simp [entryFrame, mkF, argsToLocals, Value.category, maxLocals]; done) | rfl) ?_
  intro p e s m below meth c C
  refine Wk.st (g' := (mkF m 1 #[.val (.int i0), .val (.int i1), .val (.int i2), .val (.int i3), .val (.int i4), .unset, .unset, .unset, .unset, .unset, .unset, .unset] [(.int i0)])) (fun X t q => XS.iloadN X.here C.hx rfl (hb C.hby at_0) rfl q) ?_
  refine Wk.st (g' := (mkF m 4 #[.val (.int i0), .val (.int i1), .val (.int i2), .val (.int i3), .val (.int i4), .unset, .unset, .unset, .unset, .unset, .unset, .unset] [(.int (16383 : Int32)), (.int i0)])) (fun X t q => XS.sipush X.here C.hx rfl (hb C.hby at_1) q) ?_
  refine Wk.st (g' := (mkF m 5 #[.val (.int i0), .val (.int i1), .val (.int i2), .val (.int i3), .val (.int i4), .unset, .unset, .unset, .unset, .unset, .unset, .unset] [(.int (i0 &&& (16383 : Int32)))])) (fun X t q => XS.iand X.here C.hx rfl (hb C.hby at_4) rfl q) ?_
  refine Wk.st (g' := (mkF m 7 #[.val (.int i0), .val (.int i1), .val (.int i2), .val (.int i3), .val (.int i4), .val (.int (i0 &&& (16383 : Int32))), .unset, .unset, .unset, .unset, .unset, .unset] [])) (fun X t q => XS.istore X.here C.hx rfl (hb C.hby at_5) rfl (l' := #[.val (.int i0), .val (.int i1), .val (.int i2), .val (.int i3), .val (.int i4), .val (.int (i0 &&& (16383 : Int32))), .unset, .unset, .unset, .unset, .unset, .unset]) rfl q) ?_
  obtain ⟨xi, hxi⟩ : ∃ z, z = (i0 &&& (16383 : Int32)) := ⟨_, rfl⟩
  rw [← hxi]
  have rxi := m_range i0
  rw [← hxi] at rxi
  show Wk _ p l e _ s m _ below meth c n0 _ h0 0 0 (mkF m 7 #[.val (.int i0), .val (.int i1), .val (.int i2), .val (.int i3), .val (.int i4), .val (.int xi), .unset, .unset, .unset, .unset, .unset, .unset] [])
  refine Wk.st (g' := (mkF m 8 #[.val (.int i0), .val (.int i1), .val (.int i2), .val (.int i3), .val (.int i4), .val (.int xi), .unset, .unset, .unset, .unset, .unset, .unset] [(.int i1)])) (fun X t q => XS.iloadN X.here C.hx rfl (hb C.hby at_7) rfl q) ?_
  refine Wk.st (g' := (mkF m 11 #[.val (.int i0), .val (.int i1), .val (.int i2), .val (.int i3), .val (.int i4), .val (.int xi), .unset, .unset, .unset, .unset, .unset, .unset] [(.int (16383 : Int32)), (.int i1)])) (fun X t q => XS.sipush X.here C.hx rfl (hb C.hby at_8) q) ?_
  refine Wk.st (g' := (mkF m 12 #[.val (.int i0), .val (.int i1), .val (.int i2), .val (.int i3), .val (.int i4), .val (.int xi), .unset, .unset, .unset, .unset, .unset, .unset] [(.int (i1 &&& (16383 : Int32)))])) (fun X t q => XS.iand X.here C.hx rfl (hb C.hby at_11) rfl q) ?_
  refine Wk.st (g' := (mkF m 14 #[.val (.int i0), .val (.int i1), .val (.int i2), .val (.int i3), .val (.int i4), .val (.int xi), .val (.int (i1 &&& (16383 : Int32))), .unset, .unset, .unset, .unset, .unset] [])) (fun X t q => XS.istore X.here C.hx rfl (hb C.hby at_12) rfl (l' := #[.val (.int i0), .val (.int i1), .val (.int i2), .val (.int i3), .val (.int i4), .val (.int xi), .val (.int (i1 &&& (16383 : Int32))), .unset, .unset, .unset, .unset, .unset]) rfl q) ?_
  obtain ⟨xj, hxj⟩ : ∃ z, z = (i1 &&& (16383 : Int32)) := ⟨_, rfl⟩
  rw [← hxj]
  have rxj := m_range i1
  rw [← hxj] at rxj
  show Wk _ p l e _ s m _ below meth c n0 _ h0 0 0 (mkF m 14 #[.val (.int i0), .val (.int i1), .val (.int i2), .val (.int i3), .val (.int i4), .val (.int xi), .val (.int xj), .unset, .unset, .unset, .unset, .unset] [])
  refine Wk.st (g' := (mkF m 15 #[.val (.int i0), .val (.int i1), .val (.int i2), .val (.int i3), .val (.int i4), .val (.int xi), .val (.int xj), .unset, .unset, .unset, .unset, .unset] [(.int i2)])) (fun X t q => XS.iloadN X.here C.hx rfl (hb C.hby at_14) rfl q) ?_
  refine Wk.st (g' := (mkF m 18 #[.val (.int i0), .val (.int i1), .val (.int i2), .val (.int i3), .val (.int i4), .val (.int xi), .val (.int xj), .unset, .unset, .unset, .unset, .unset] [(.int (16383 : Int32)), (.int i2)])) (fun X t q => XS.sipush X.here C.hx rfl (hb C.hby at_15) q) ?_
  refine Wk.st (g' := (mkF m 19 #[.val (.int i0), .val (.int i1), .val (.int i2), .val (.int i3), .val (.int i4), .val (.int xi), .val (.int xj), .unset, .unset, .unset, .unset, .unset] [(.int (i2 &&& (16383 : Int32)))])) (fun X t q => XS.iand X.here C.hx rfl (hb C.hby at_18) rfl q) ?_
  refine Wk.st (g' := (mkF m 21 #[.val (.int i0), .val (.int i1), .val (.int i2), .val (.int i3), .val (.int i4), .val (.int xi), .val (.int xj), .val (.int (i2 &&& (16383 : Int32))), .unset, .unset, .unset, .unset] [])) (fun X t q => XS.istore X.here C.hx rfl (hb C.hby at_19) rfl (l' := #[.val (.int i0), .val (.int i1), .val (.int i2), .val (.int i3), .val (.int i4), .val (.int xi), .val (.int xj), .val (.int (i2 &&& (16383 : Int32))), .unset, .unset, .unset, .unset]) rfl q) ?_
  obtain ⟨xk, hxk⟩ : ∃ z, z = (i2 &&& (16383 : Int32)) := ⟨_, rfl⟩
  rw [← hxk]
  have rxk := m_range i2
  rw [← hxk] at rxk
  show Wk _ p l e _ s m _ below meth c n0 _ h0 0 0 (mkF m 21 #[.val (.int i0), .val (.int i1), .val (.int i2), .val (.int i3), .val (.int i4), .val (.int xi), .val (.int xj), .val (.int xk), .unset, .unset, .unset, .unset] [])
  refine Wk.newO C (hw _ (List.mem_of_getElem? (i := 0) rfl)) (hw _ (List.mem_of_getElem? (i := 1) rfl)) (hw _ (List.mem_of_getElem? (i := 2) rfl)) at_21 (by decide) (by decide) ?_
  intro h1 b2 g3 E4 A5 D6
  have ge7 : n0 ≤ b2 := Nat.le_trans hsz (Nat.le_of_eq g3.symm)
  have gz8 : h0.size ≤ b2 := Nat.le_trans (Nat.le_refl h0.size) (Nat.le_of_eq g3.symm)
  have sz9 : n0 ≤ h1.size := Nat.le_trans hsz E4.1
  have sy10 : h0.size ≤ h1.size := Nat.le_trans (Nat.le_refl h0.size) E4.1
  have F11 : Fld Z h1 b2 "com/example/torino/torino/IntBlocks" "blocks" "[[I" .null := D6 (Or.inl (hw _ (List.mem_of_getElem? (i := 12) rfl))) (ty := (.array (.array .int))) (by decide)
  have F12 : Fld Z h1 b2 "com/example/torino/torino/IntBlocks" "blockCount" "I" (.int (0 : Int32)) := D6 (Or.inl (hw _ (List.mem_of_getElem? (i := 16) rfl))) (ty := .int) (by decide)
  show Wk _ p l e _ s m _ below meth c n0 _ h1 1 2 (mkF m 24 #[.val (.int i0), .val (.int i1), .val (.int i2), .val (.int i3), .val (.int i4), .val (.int xi), .val (.int xj), .val (.int xk), .unset, .unset, .unset, .unset] [(.ref b2)])
  refine Wk.st (g' := (mkF m 25 #[.val (.int i0), .val (.int i1), .val (.int i2), .val (.int i3), .val (.int i4), .val (.int xi), .val (.int xj), .val (.int xk), .unset, .unset, .unset, .unset] [(.ref b2), (.ref b2)])) (fun X t q => XS.dup X.here C.hx rfl (hb C.hby at_24) rfl rfl q) ?_
  refine Wk.callI C (z := (⟨"com/example/torino/torino/IntBlocks", "<init>", "()V"⟩ : MethodName)) rfl (hw _ (List.mem_of_getElem? (i := 3) rfl)) (hw _ (List.mem_of_getElem? (i := 4) rfl)) (hw _ (List.mem_of_getElem? (i := 2) rfl)) (hw _ (List.mem_of_getElem? (i := 5) rfl)) (by decide) (own_1_1 l Z a0 hw n0 h1 sz9 b2  A5 F11 F12  ge7) (w := 1) (by decide) (by decide) pd_0 rfl (rest := [(.ref b2)]) rfl rfl (Nat.le_of_eq rfl) (by decide) (by decide) at_25 ?_
  rintro _ h14 ⟨n13_b2, n13_b27, rfl, K15, gn22, gn23, ne24, F16, F17, F18, F19, F20, F21⟩
  show Wk _ p l e _ s m _ below meth c n0 _ h14 3 4114 (mkF m 28 #[.val (.int i0), .val (.int i1), .val (.int i2), .val (.int i3), .val (.int i4), .val (.int xi), .val (.int xj), .val (.int xk), .unset, .unset, .unset, .unset] [(.ref b2)])
  have ne25 : b2 ≠ n13_b2 := Nat.ne_of_lt (Nat.lt_of_lt_of_le A5.lt gn22)
  have ge26 : n0 ≤ n13_b2 := Nat.le_trans sz9 gn22
  have gz27 : h0.size ≤ n13_b2 := Nat.le_trans sy10 gn22
  have ne28 : b2 ≠ n13_b27 := Nat.ne_of_lt (Nat.lt_of_lt_of_le A5.lt gn23)
  have ge29 : n0 ≤ n13_b27 := Nat.le_trans sz9 gn23
  have gz30 : h0.size ≤ n13_b27 := Nat.le_trans sy10 gn23
  have F31 : Exa Z h14 b2 "com/example/torino/torino/IntBlocks" := A5.keep K15
  have sz32 : n0 ≤ h14.size := Nat.le_trans sz9 K15.1
  have sy33 : h0.size ≤ h14.size := Nat.le_trans sy10 K15.1
  refine Wk.st (g' := (mkF m 30 #[.val (.int i0), .val (.int i1), .val (.int i2), .val (.int i3), .val (.int i4), .val (.int xi), .val (.int xj), .val (.int xk), .val (.ref b2), .unset, .unset, .unset] [])) (fun X t q => XS.astore X.here C.hx rfl (hb C.hby at_28) rfl rfl (l' := #[.val (.int i0), .val (.int i1), .val (.int i2), .val (.int i3), .val (.int i4), .val (.int xi), .val (.int xj), .val (.int xk), .val (.ref b2), .unset, .unset, .unset]) rfl q) ?_
  refine Wk.st (g' := (mkF m 32 #[.val (.int i0), .val (.int i1), .val (.int i2), .val (.int i3), .val (.int i4), .val (.int xi), .val (.int xj), .val (.int xk), .val (.ref b2), .unset, .unset, .unset] [(.ref b2)])) (fun X t q => XS.aload X.here C.hx rfl (hb C.hby at_30) rfl rfl q) ?_
  refine Wk.ldc2J C (hw _ (List.mem_of_getElem? (i := 17) rfl)) at_32 ?_
  show Wk _ p l e _ s m _ below meth c n0 _ h14 3 4114 (mkF m 35 #[.val (.int i0), .val (.int i1), .val (.int i2), .val (.int i3), .val (.int i4), .val (.int xi), .val (.int xj), .val (.int xk), .val (.ref b2), .unset, .unset, .unset] [(.long (16384 : Int64)), (.ref b2)])
  refine Wk.ldcS C (hw _ (List.mem_of_getElem? (i := 18) rfl)) (own_wS hw) (N := 4) (by decide) (by decide) at_35 (by decide) (by decide) ?_
  intro h34 a35 E36
  have F37 : Exa Z h34 b2 "com/example/torino/torino/IntBlocks" := F31.ext E36
  have F38 : Exa Z h34 n13_b2 "[[I" := F16.ext E36
  have F39 : Fld Z h34 b2 "com/example/torino/torino/IntBlocks" "blocks" "[[I" (.ref n13_b2) := F17.ext E36
  have F40 : Exa Z h34 n13_b27 "[I" := F18.ext E36
  have F41 : Fa Z h34 n13_b27 .int 4096 (fun _ => (.int (0 : Int32))) := F19.ext E36
  have F42 : FaA Z h34 n13_b2 .int "[I" 16 (up (fun _ => .null) 0 (.ref n13_b27)) := F20.ext E36
  have F43 : Fld Z h34 b2 "com/example/torino/torino/IntBlocks" "blockCount" "I" (.int (1 : Int32)) := F21.ext E36
  have sz44 : n0 ≤ h34.size := Nat.le_trans sz32 E36.1
  have sy45 : h0.size ≤ h34.size := Nat.le_trans sy33 E36.1
  show Wk _ p l e _ s m _ below meth c n0 _ h34 5 4122 (mkF m 37 #[.val (.int i0), .val (.int i1), .val (.int i2), .val (.int i3), .val (.int i4), .val (.int xi), .val (.int xj), .val (.int xk), .val (.ref b2), .unset, .unset, .unset] [(.ref a35), (.long (16384 : Int64)), (.ref b2)])
  refine Wk.callV C (x := (⟨"com/example/torino/torino/IntBlocks", "makeRoom", "(JLjava/lang/String;)V"⟩ : MethodName)) (z := (⟨"com/example/torino/torino/IntBlocks", "makeRoom", "(JLjava/lang/String;)V"⟩ : MethodName)) (K := "com/example/torino/torino/IntBlocks") (hw _ (List.mem_of_getElem? (i := 26) rfl)) (hw _ (List.mem_of_getElem? (i := 27) rfl)) (hw _ (List.mem_of_getElem? (i := 29) rfl)) (hw _ (List.mem_of_getElem? (i := 28) rfl)) (hw _ (List.mem_of_getElem? (i := 2) rfl)) (hw _ (List.mem_of_getElem? (i := 30) rfl)) (by decide) (fun s' hZ' => notFace_of_selects (args := #[]) (mvT hZ' (hw _ (List.mem_of_getElem? (i := 29) rfl)))) F37 (own_3_2 l Z a0 hw n0 h34 sz44 b2 a35 n13_b2 n13_b27  F37 F38 F39 F40 F41 F42 F43 ne25 ne28 ne24 ge7 ge26 ge29) (w := 0) (by decide) (by decide) pd_1 rfl (rest := []) rfl rfl (Nat.le_of_eq rfl) (by decide) (by decide) at_37 ?_
  rintro _ h47 ⟨n46_b4, n46_b53, n46_b109, rfl, K48, gn58, gn59, gn60, ne61, ne62, ne63, F49, F50, F51, F52, F53, F54, F55, F56, F57⟩
  show Wk _ p l e _ s m _ below meth c n0 _ h47 8 16410 (mkF m 40 #[.val (.int i0), .val (.int i1), .val (.int i2), .val (.int i3), .val (.int i4), .val (.int xi), .val (.int xj), .val (.int xk), .val (.ref b2), .unset, .unset, .unset] [])
  have ne64 : b2 ≠ n46_b4 := Nat.ne_of_lt (Nat.lt_of_lt_of_le F37.lt gn58)
  have ne65 : n13_b2 ≠ n46_b4 := Nat.ne_of_lt (Nat.lt_of_lt_of_le F38.lt gn58)
  have ne66 : n13_b27 ≠ n46_b4 := Nat.ne_of_lt (Nat.lt_of_lt_of_le F40.lt gn58)
  have ge67 : n0 ≤ n46_b4 := Nat.le_trans sz44 gn58
  have gz68 : h0.size ≤ n46_b4 := Nat.le_trans sy45 gn58
  have ne69 : b2 ≠ n46_b53 := Nat.ne_of_lt (Nat.lt_of_lt_of_le F37.lt gn59)
  have ne70 : n13_b2 ≠ n46_b53 := Nat.ne_of_lt (Nat.lt_of_lt_of_le F38.lt gn59)
  have ne71 : n13_b27 ≠ n46_b53 := Nat.ne_of_lt (Nat.lt_of_lt_of_le F40.lt gn59)
  have ge72 : n0 ≤ n46_b53 := Nat.le_trans sz44 gn59
  have gz73 : h0.size ≤ n46_b53 := Nat.le_trans sy45 gn59
  have ne74 : b2 ≠ n46_b109 := Nat.ne_of_lt (Nat.lt_of_lt_of_le F37.lt gn60)
  have ne75 : n13_b2 ≠ n46_b109 := Nat.ne_of_lt (Nat.lt_of_lt_of_le F38.lt gn60)
  have ne76 : n13_b27 ≠ n46_b109 := Nat.ne_of_lt (Nat.lt_of_lt_of_le F40.lt gn60)
  have ge77 : n0 ≤ n46_b109 := Nat.le_trans sz44 gn60
  have gz78 : h0.size ≤ n46_b109 := Nat.le_trans sy45 gn60
  have F79 : Exa Z h47 b2 "com/example/torino/torino/IntBlocks" := F37.keep K48
  have F80 : Exa Z h47 n13_b2 "[[I" := F38.keep K48
  have F81 : Exa Z h47 n13_b27 "[I" := F40.keep K48
  have F82 : Fa Z h47 n13_b27 .int 4096 (fun _ => (.int (0 : Int32))) := F41.keep K48 (nmS (Ne.symm ne28) (nmS (Ne.symm ne24) nm0))
  have sz83 : n0 ≤ h47.size := Nat.le_trans sz44 K48.1
  have sy84 : h0.size ≤ h47.size := Nat.le_trans sy45 K48.1
  have BK85 : Blk Z h47 b2 n13_b2 n13_b27 n46_b4 n46_b53 n46_b109 (fun _ => (0 : Int32)) := ⟨F79, F49, F56, F82, F51, F53, F55⟩
  have DS86 : Dis b2 n13_b2 n13_b27 n46_b4 n46_b53 n46_b109 := ⟨ne28, ne24, (Ne.symm ne66), (Ne.symm ne71), (Ne.symm ne76), ne64, ne65, ne66, (Ne.symm ne61), (Ne.symm ne62), ne69, ne70, ne71, ne61, (Ne.symm ne63), ne74, ne75, ne76, ne62, ne63⟩
  refine Wk.st (g' := (mkF m 42 #[.val (.int i0), .val (.int i1), .val (.int i2), .val (.int i3), .val (.int i4), .val (.int xi), .val (.int xj), .val (.int xk), .val (.ref b2), .unset, .unset, .unset] [(.ref b2)])) (fun X t q => XS.aload X.here C.hx rfl (hb C.hby at_40) rfl rfl q) ?_
  refine Wk.st (g' := (mkF m 44 #[.val (.int i0), .val (.int i1), .val (.int i2), .val (.int i3), .val (.int i4), .val (.int xi), .val (.int xj), .val (.int xk), .val (.ref b2), .unset, .unset, .unset] [(.int xi), (.ref b2)])) (fun X t q => XS.iload X.here C.hx rfl (hb C.hby at_42) rfl q) ?_
  refine Wk.st (g' := (mkF m 45 #[.val (.int i0), .val (.int i1), .val (.int i2), .val (.int i3), .val (.int i4), .val (.int xi), .val (.int xj), .val (.int xk), .val (.ref b2), .unset, .unset, .unset] [(.int i3), (.int xi), (.ref b2)])) (fun X t q => XS.iloadN X.here C.hx rfl (hb C.hby at_44) rfl q) ?_
  refine Wk.callV C (x := (⟨"com/example/torino/torino/IntBlocks", "set", "(II)V"⟩ : MethodName)) (z := (⟨"com/example/torino/torino/IntBlocks", "set", "(II)V"⟩ : MethodName)) (K := "com/example/torino/torino/IntBlocks") (hw _ (List.mem_of_getElem? (i := 37) rfl)) (hw _ (List.mem_of_getElem? (i := 38) rfl)) (hw _ (List.mem_of_getElem? (i := 40) rfl)) (hw _ (List.mem_of_getElem? (i := 39) rfl)) (hw _ (List.mem_of_getElem? (i := 2) rfl)) (hw _ (List.mem_of_getElem? (i := 41) rfl)) (by decide) (fun s' hZ' => notFace_of_selects (args := #[]) (mvT hZ' (hw _ (List.mem_of_getElem? (i := 40) rfl)))) BK85.1 (own_set l Z a0 hw n0 h47 b2 n13_b2 n13_b27 n46_b4 n46_b53 n46_b109 (fun _ => (0 : Int32)) xi rxi.1 rxi.2 BK85 i3 DS86 ge29 ge67 ge72 ge77) (w := 0) (by decide) (by decide) pd_2 rfl (rest := []) rfl rfl (Nat.le_of_eq rfl) (by decide) (by decide) at_45 ?_
  rintro _ h87 ⟨rfl, BK88⟩
  show Wk _ p l e _ s m _ below meth c n0 _ h87 8 16410 (mkF m 48 #[.val (.int i0), .val (.int i1), .val (.int i2), .val (.int i3), .val (.int i4), .val (.int xi), .val (.int xj), .val (.int xk), .val (.ref b2), .unset, .unset, .unset] [])
  refine Wk.st (g' := (mkF m 50 #[.val (.int i0), .val (.int i1), .val (.int i2), .val (.int i3), .val (.int i4), .val (.int xi), .val (.int xj), .val (.int xk), .val (.ref b2), .unset, .unset, .unset] [(.ref b2)])) (fun X t q => XS.aload X.here C.hx rfl (hb C.hby at_48) rfl rfl q) ?_
  refine Wk.st (g' := (mkF m 52 #[.val (.int i0), .val (.int i1), .val (.int i2), .val (.int i3), .val (.int i4), .val (.int xi), .val (.int xj), .val (.int xk), .val (.ref b2), .unset, .unset, .unset] [(.int xj), (.ref b2)])) (fun X t q => XS.iload X.here C.hx rfl (hb C.hby at_50) rfl q) ?_
  refine Wk.st (g' := (mkF m 54 #[.val (.int i0), .val (.int i1), .val (.int i2), .val (.int i3), .val (.int i4), .val (.int xi), .val (.int xj), .val (.int xk), .val (.ref b2), .unset, .unset, .unset] [(.int i4), (.int xj), (.ref b2)])) (fun X t q => XS.iload X.here C.hx rfl (hb C.hby at_52) rfl q) ?_
  refine Wk.callV C (x := (⟨"com/example/torino/torino/IntBlocks", "set", "(II)V"⟩ : MethodName)) (z := (⟨"com/example/torino/torino/IntBlocks", "set", "(II)V"⟩ : MethodName)) (K := "com/example/torino/torino/IntBlocks") (hw _ (List.mem_of_getElem? (i := 37) rfl)) (hw _ (List.mem_of_getElem? (i := 38) rfl)) (hw _ (List.mem_of_getElem? (i := 40) rfl)) (hw _ (List.mem_of_getElem? (i := 39) rfl)) (hw _ (List.mem_of_getElem? (i := 2) rfl)) (hw _ (List.mem_of_getElem? (i := 41) rfl)) (by decide) (fun s' hZ' => notFace_of_selects (args := #[]) (mvT hZ' (hw _ (List.mem_of_getElem? (i := 40) rfl)))) BK88.1 (own_set l Z a0 hw n0 h87 b2 n13_b2 n13_b27 n46_b4 n46_b53 n46_b109 (up (fun _ => (0 : Int32)) xi.toNatClampNeg i3) xj rxj.1 rxj.2 BK88 i4 DS86 ge29 ge67 ge72 ge77) (w := 0) (by decide) (by decide) pd_2 rfl (rest := []) rfl rfl (Nat.le_of_eq rfl) (by decide) (by decide) at_54 ?_
  rintro _ h89 ⟨rfl, BK90⟩
  show Wk _ p l e _ s m _ below meth c n0 _ h89 8 16410 (mkF m 57 #[.val (.int i0), .val (.int i1), .val (.int i2), .val (.int i3), .val (.int i4), .val (.int xi), .val (.int xj), .val (.int xk), .val (.ref b2), .unset, .unset, .unset] [])
  refine Wk.st (g' := (mkF m 59 #[.val (.int i0), .val (.int i1), .val (.int i2), .val (.int i3), .val (.int i4), .val (.int xi), .val (.int xj), .val (.int xk), .val (.ref b2), .unset, .unset, .unset] [(.ref b2)])) (fun X t q => XS.aload X.here C.hx rfl (hb C.hby at_57) rfl rfl q) ?_
  refine Wk.st (g' := (mkF m 61 #[.val (.int i0), .val (.int i1), .val (.int i2), .val (.int i3), .val (.int i4), .val (.int xi), .val (.int xj), .val (.int xk), .val (.ref b2), .unset, .unset, .unset] [(.int xi), (.ref b2)])) (fun X t q => XS.iload X.here C.hx rfl (hb C.hby at_59) rfl q) ?_
  refine Wk.callV C (x := (⟨"com/example/torino/torino/IntBlocks", "get", "(I)I"⟩ : MethodName)) (z := (⟨"com/example/torino/torino/IntBlocks", "get", "(I)I"⟩ : MethodName)) (K := "com/example/torino/torino/IntBlocks") (hw _ (List.mem_of_getElem? (i := 42) rfl)) (hw _ (List.mem_of_getElem? (i := 43) rfl)) (hw _ (List.mem_of_getElem? (i := 45) rfl)) (hw _ (List.mem_of_getElem? (i := 44) rfl)) (hw _ (List.mem_of_getElem? (i := 2) rfl)) (hw _ (List.mem_of_getElem? (i := 46) rfl)) (by decide) (fun s' hZ' => notFace_of_selects (args := #[]) (mvT hZ' (hw _ (List.mem_of_getElem? (i := 45) rfl)))) BK90.1 (own_get l Z a0 hw n0 h89 b2 n13_b2 n13_b27 n46_b4 n46_b53 n46_b109 (up (up (fun _ => (0 : Int32)) xi.toNatClampNeg i3) xj.toNatClampNeg i4) xi rxi.1 rxi.2 BK90) (w := 0) (by decide) (by decide) pd_3 rfl (rest := []) rfl rfl (Nat.le_of_eq rfl) (by decide) (by decide) at_61 ?_
  rintro _ _ ⟨rfl, rfl⟩
  show Wk _ p l e _ s m _ below meth c n0 _ h89 8 16410 (mkF m 64 #[.val (.int i0), .val (.int i1), .val (.int i2), .val (.int i3), .val (.int i4), .val (.int xi), .val (.int xj), .val (.int xk), .val (.ref b2), .unset, .unset, .unset] [(.int ((up (up (fun _ => (0 : Int32)) xi.toNatClampNeg i3) xj.toNatClampNeg i4) xi.toNatClampNeg))])
  refine Wk.st (g' := (mkF m 66 #[.val (.int i0), .val (.int i1), .val (.int i2), .val (.int i3), .val (.int i4), .val (.int xi), .val (.int xj), .val (.int xk), .val (.ref b2), .val (.int ((up (up (fun _ => (0 : Int32)) xi.toNatClampNeg i3) xj.toNatClampNeg i4) xi.toNatClampNeg)), .unset, .unset] [])) (fun X t q => XS.istore X.here C.hx rfl (hb C.hby at_64) rfl (l' := #[.val (.int i0), .val (.int i1), .val (.int i2), .val (.int i3), .val (.int i4), .val (.int xi), .val (.int xj), .val (.int xk), .val (.ref b2), .val (.int ((up (up (fun _ => (0 : Int32)) xi.toNatClampNeg i3) xj.toNatClampNeg i4) xi.toNatClampNeg)), .unset, .unset]) rfl q) ?_
  refine Wk.st (g' := (mkF m 68 #[.val (.int i0), .val (.int i1), .val (.int i2), .val (.int i3), .val (.int i4), .val (.int xi), .val (.int xj), .val (.int xk), .val (.ref b2), .val (.int ((up (up (fun _ => (0 : Int32)) xi.toNatClampNeg i3) xj.toNatClampNeg i4) xi.toNatClampNeg)), .unset, .unset] [(.ref b2)])) (fun X t q => XS.aload X.here C.hx rfl (hb C.hby at_66) rfl rfl q) ?_
  refine Wk.st (g' := (mkF m 70 #[.val (.int i0), .val (.int i1), .val (.int i2), .val (.int i3), .val (.int i4), .val (.int xi), .val (.int xj), .val (.int xk), .val (.ref b2), .val (.int ((up (up (fun _ => (0 : Int32)) xi.toNatClampNeg i3) xj.toNatClampNeg i4) xi.toNatClampNeg)), .unset, .unset] [(.int xj), (.ref b2)])) (fun X t q => XS.iload X.here C.hx rfl (hb C.hby at_68) rfl q) ?_
  refine Wk.callV C (x := (⟨"com/example/torino/torino/IntBlocks", "get", "(I)I"⟩ : MethodName)) (z := (⟨"com/example/torino/torino/IntBlocks", "get", "(I)I"⟩ : MethodName)) (K := "com/example/torino/torino/IntBlocks") (hw _ (List.mem_of_getElem? (i := 42) rfl)) (hw _ (List.mem_of_getElem? (i := 43) rfl)) (hw _ (List.mem_of_getElem? (i := 45) rfl)) (hw _ (List.mem_of_getElem? (i := 44) rfl)) (hw _ (List.mem_of_getElem? (i := 2) rfl)) (hw _ (List.mem_of_getElem? (i := 46) rfl)) (by decide) (fun s' hZ' => notFace_of_selects (args := #[]) (mvT hZ' (hw _ (List.mem_of_getElem? (i := 45) rfl)))) BK90.1 (own_get l Z a0 hw n0 h89 b2 n13_b2 n13_b27 n46_b4 n46_b53 n46_b109 (up (up (fun _ => (0 : Int32)) xi.toNatClampNeg i3) xj.toNatClampNeg i4) xj rxj.1 rxj.2 BK90) (w := 0) (by decide) (by decide) pd_3 rfl (rest := []) rfl rfl (Nat.le_of_eq rfl) (by decide) (by decide) at_70 ?_
  rintro _ _ ⟨rfl, rfl⟩
  show Wk _ p l e _ s m _ below meth c n0 _ h89 8 16410 (mkF m 73 #[.val (.int i0), .val (.int i1), .val (.int i2), .val (.int i3), .val (.int i4), .val (.int xi), .val (.int xj), .val (.int xk), .val (.ref b2), .val (.int ((up (up (fun _ => (0 : Int32)) xi.toNatClampNeg i3) xj.toNatClampNeg i4) xi.toNatClampNeg)), .unset, .unset] [(.int ((up (up (fun _ => (0 : Int32)) xi.toNatClampNeg i3) xj.toNatClampNeg i4) xj.toNatClampNeg))])
  refine Wk.st (g' := (mkF m 75 #[.val (.int i0), .val (.int i1), .val (.int i2), .val (.int i3), .val (.int i4), .val (.int xi), .val (.int xj), .val (.int xk), .val (.ref b2), .val (.int ((up (up (fun _ => (0 : Int32)) xi.toNatClampNeg i3) xj.toNatClampNeg i4) xi.toNatClampNeg)), .val (.int ((up (up (fun _ => (0 : Int32)) xi.toNatClampNeg i3) xj.toNatClampNeg i4) xj.toNatClampNeg)), .unset] [])) (fun X t q => XS.istore X.here C.hx rfl (hb C.hby at_73) rfl (l' := #[.val (.int i0), .val (.int i1), .val (.int i2), .val (.int i3), .val (.int i4), .val (.int xi), .val (.int xj), .val (.int xk), .val (.ref b2), .val (.int ((up (up (fun _ => (0 : Int32)) xi.toNatClampNeg i3) xj.toNatClampNeg i4) xi.toNatClampNeg)), .val (.int ((up (up (fun _ => (0 : Int32)) xi.toNatClampNeg i3) xj.toNatClampNeg i4) xj.toNatClampNeg)), .unset]) rfl q) ?_
  refine Wk.st (g' := (mkF m 77 #[.val (.int i0), .val (.int i1), .val (.int i2), .val (.int i3), .val (.int i4), .val (.int xi), .val (.int xj), .val (.int xk), .val (.ref b2), .val (.int ((up (up (fun _ => (0 : Int32)) xi.toNatClampNeg i3) xj.toNatClampNeg i4) xi.toNatClampNeg)), .val (.int ((up (up (fun _ => (0 : Int32)) xi.toNatClampNeg i3) xj.toNatClampNeg i4) xj.toNatClampNeg)), .unset] [(.ref b2)])) (fun X t q => XS.aload X.here C.hx rfl (hb C.hby at_75) rfl rfl q) ?_
  refine Wk.st (g' := (mkF m 79 #[.val (.int i0), .val (.int i1), .val (.int i2), .val (.int i3), .val (.int i4), .val (.int xi), .val (.int xj), .val (.int xk), .val (.ref b2), .val (.int ((up (up (fun _ => (0 : Int32)) xi.toNatClampNeg i3) xj.toNatClampNeg i4) xi.toNatClampNeg)), .val (.int ((up (up (fun _ => (0 : Int32)) xi.toNatClampNeg i3) xj.toNatClampNeg i4) xj.toNatClampNeg)), .unset] [(.int xk), (.ref b2)])) (fun X t q => XS.iload X.here C.hx rfl (hb C.hby at_77) rfl q) ?_
  refine Wk.callV C (x := (⟨"com/example/torino/torino/IntBlocks", "get", "(I)I"⟩ : MethodName)) (z := (⟨"com/example/torino/torino/IntBlocks", "get", "(I)I"⟩ : MethodName)) (K := "com/example/torino/torino/IntBlocks") (hw _ (List.mem_of_getElem? (i := 42) rfl)) (hw _ (List.mem_of_getElem? (i := 43) rfl)) (hw _ (List.mem_of_getElem? (i := 45) rfl)) (hw _ (List.mem_of_getElem? (i := 44) rfl)) (hw _ (List.mem_of_getElem? (i := 2) rfl)) (hw _ (List.mem_of_getElem? (i := 46) rfl)) (by decide) (fun s' hZ' => notFace_of_selects (args := #[]) (mvT hZ' (hw _ (List.mem_of_getElem? (i := 45) rfl)))) BK90.1 (own_get l Z a0 hw n0 h89 b2 n13_b2 n13_b27 n46_b4 n46_b53 n46_b109 (up (up (fun _ => (0 : Int32)) xi.toNatClampNeg i3) xj.toNatClampNeg i4) xk rxk.1 rxk.2 BK90) (w := 0) (by decide) (by decide) pd_3 rfl (rest := []) rfl rfl (Nat.le_of_eq rfl) (by decide) (by decide) at_79 ?_
  rintro _ _ ⟨rfl, rfl⟩
  show Wk _ p l e _ s m _ below meth c n0 _ h89 8 16410 (mkF m 82 #[.val (.int i0), .val (.int i1), .val (.int i2), .val (.int i3), .val (.int i4), .val (.int xi), .val (.int xj), .val (.int xk), .val (.ref b2), .val (.int ((up (up (fun _ => (0 : Int32)) xi.toNatClampNeg i3) xj.toNatClampNeg i4) xi.toNatClampNeg)), .val (.int ((up (up (fun _ => (0 : Int32)) xi.toNatClampNeg i3) xj.toNatClampNeg i4) xj.toNatClampNeg)), .unset] [(.int ((up (up (fun _ => (0 : Int32)) xi.toNatClampNeg i3) xj.toNatClampNeg i4) xk.toNatClampNeg))])
  refine Wk.st (g' := (mkF m 84 #[.val (.int i0), .val (.int i1), .val (.int i2), .val (.int i3), .val (.int i4), .val (.int xi), .val (.int xj), .val (.int xk), .val (.ref b2), .val (.int ((up (up (fun _ => (0 : Int32)) xi.toNatClampNeg i3) xj.toNatClampNeg i4) xi.toNatClampNeg)), .val (.int ((up (up (fun _ => (0 : Int32)) xi.toNatClampNeg i3) xj.toNatClampNeg i4) xj.toNatClampNeg)), .val (.int ((up (up (fun _ => (0 : Int32)) xi.toNatClampNeg i3) xj.toNatClampNeg i4) xk.toNatClampNeg))] [])) (fun X t q => XS.istore X.here C.hx rfl (hb C.hby at_82) rfl (l' := #[.val (.int i0), .val (.int i1), .val (.int i2), .val (.int i3), .val (.int i4), .val (.int xi), .val (.int xj), .val (.int xk), .val (.ref b2), .val (.int ((up (up (fun _ => (0 : Int32)) xi.toNatClampNeg i3) xj.toNatClampNeg i4) xi.toNatClampNeg)), .val (.int ((up (up (fun _ => (0 : Int32)) xi.toNatClampNeg i3) xj.toNatClampNeg i4) xj.toNatClampNeg)), .val (.int ((up (up (fun _ => (0 : Int32)) xi.toNatClampNeg i3) xj.toNatClampNeg i4) xk.toNatClampNeg))]) rfl q) ?_
  refine Wk.st (g' := (mkF m 86 #[.val (.int i0), .val (.int i1), .val (.int i2), .val (.int i3), .val (.int i4), .val (.int xi), .val (.int xj), .val (.int xk), .val (.ref b2), .val (.int ((up (up (fun _ => (0 : Int32)) xi.toNatClampNeg i3) xj.toNatClampNeg i4) xi.toNatClampNeg)), .val (.int ((up (up (fun _ => (0 : Int32)) xi.toNatClampNeg i3) xj.toNatClampNeg i4) xj.toNatClampNeg)), .val (.int ((up (up (fun _ => (0 : Int32)) xi.toNatClampNeg i3) xj.toNatClampNeg i4) xk.toNatClampNeg))] [(.int ((up (up (fun _ => (0 : Int32)) xi.toNatClampNeg i3) xj.toNatClampNeg i4) xi.toNatClampNeg))])) (fun X t q => XS.iload X.here C.hx rfl (hb C.hby at_84) rfl q) ?_
  refine Wk.st (g' := (mkF m 88 #[.val (.int i0), .val (.int i1), .val (.int i2), .val (.int i3), .val (.int i4), .val (.int xi), .val (.int xj), .val (.int xk), .val (.ref b2), .val (.int ((up (up (fun _ => (0 : Int32)) xi.toNatClampNeg i3) xj.toNatClampNeg i4) xi.toNatClampNeg)), .val (.int ((up (up (fun _ => (0 : Int32)) xi.toNatClampNeg i3) xj.toNatClampNeg i4) xj.toNatClampNeg)), .val (.int ((up (up (fun _ => (0 : Int32)) xi.toNatClampNeg i3) xj.toNatClampNeg i4) xk.toNatClampNeg))] [(.int xi), (.int ((up (up (fun _ => (0 : Int32)) xi.toNatClampNeg i3) xj.toNatClampNeg i4) xi.toNatClampNeg))])) (fun X t q => XS.iload X.here C.hx rfl (hb C.hby at_86) rfl q) ?_
  refine Wk.st (g' := (mkF m 90 #[.val (.int i0), .val (.int i1), .val (.int i2), .val (.int i3), .val (.int i4), .val (.int xi), .val (.int xj), .val (.int xk), .val (.ref b2), .val (.int ((up (up (fun _ => (0 : Int32)) xi.toNatClampNeg i3) xj.toNatClampNeg i4) xi.toNatClampNeg)), .val (.int ((up (up (fun _ => (0 : Int32)) xi.toNatClampNeg i3) xj.toNatClampNeg i4) xj.toNatClampNeg)), .val (.int ((up (up (fun _ => (0 : Int32)) xi.toNatClampNeg i3) xj.toNatClampNeg i4) xk.toNatClampNeg))] [(.int xi), (.int xi), (.int ((up (up (fun _ => (0 : Int32)) xi.toNatClampNeg i3) xj.toNatClampNeg i4) xi.toNatClampNeg))])) (fun X t q => XS.iload X.here C.hx rfl (hb C.hby at_88) rfl q) ?_
  refine Wk.st (g' := (mkF m 91 #[.val (.int i0), .val (.int i1), .val (.int i2), .val (.int i3), .val (.int i4), .val (.int xi), .val (.int xj), .val (.int xk), .val (.ref b2), .val (.int ((up (up (fun _ => (0 : Int32)) xi.toNatClampNeg i3) xj.toNatClampNeg i4) xi.toNatClampNeg)), .val (.int ((up (up (fun _ => (0 : Int32)) xi.toNatClampNeg i3) xj.toNatClampNeg i4) xj.toNatClampNeg)), .val (.int ((up (up (fun _ => (0 : Int32)) xi.toNatClampNeg i3) xj.toNatClampNeg i4) xk.toNatClampNeg))] [(.int i3), (.int xi), (.int xi), (.int ((up (up (fun _ => (0 : Int32)) xi.toNatClampNeg i3) xj.toNatClampNeg i4) xi.toNatClampNeg))])) (fun X t q => XS.iloadN X.here C.hx rfl (hb C.hby at_90) rfl q) ?_
  refine Wk.st (g' := (mkF m 93 #[.val (.int i0), .val (.int i1), .val (.int i2), .val (.int i3), .val (.int i4), .val (.int xi), .val (.int xj), .val (.int xk), .val (.ref b2), .val (.int ((up (up (fun _ => (0 : Int32)) xi.toNatClampNeg i3) xj.toNatClampNeg i4) xi.toNatClampNeg)), .val (.int ((up (up (fun _ => (0 : Int32)) xi.toNatClampNeg i3) xj.toNatClampNeg i4) xj.toNatClampNeg)), .val (.int ((up (up (fun _ => (0 : Int32)) xi.toNatClampNeg i3) xj.toNatClampNeg i4) xk.toNatClampNeg))] [(.int xj), (.int i3), (.int xi), (.int xi), (.int ((up (up (fun _ => (0 : Int32)) xi.toNatClampNeg i3) xj.toNatClampNeg i4) xi.toNatClampNeg))])) (fun X t q => XS.iload X.here C.hx rfl (hb C.hby at_91) rfl q) ?_
  refine Wk.st (g' := (mkF m 95 #[.val (.int i0), .val (.int i1), .val (.int i2), .val (.int i3), .val (.int i4), .val (.int xi), .val (.int xj), .val (.int xk), .val (.ref b2), .val (.int ((up (up (fun _ => (0 : Int32)) xi.toNatClampNeg i3) xj.toNatClampNeg i4) xi.toNatClampNeg)), .val (.int ((up (up (fun _ => (0 : Int32)) xi.toNatClampNeg i3) xj.toNatClampNeg i4) xj.toNatClampNeg)), .val (.int ((up (up (fun _ => (0 : Int32)) xi.toNatClampNeg i3) xj.toNatClampNeg i4) xk.toNatClampNeg))] [(.int i4), (.int xj), (.int i3), (.int xi), (.int xi), (.int ((up (up (fun _ => (0 : Int32)) xi.toNatClampNeg i3) xj.toNatClampNeg i4) xi.toNatClampNeg))])) (fun X t q => XS.iload X.here C.hx rfl (hb C.hby at_93) rfl q) ?_
  refine Wk.callS C (z := (⟨"com/example/torino/torino/IntBlocksGetPinLaw", "expected", "(IIIII)I"⟩ : MethodName)) (hw _ (List.mem_of_getElem? (i := 47) rfl)) (hw _ (List.mem_of_getElem? (i := 48) rfl)) (hw _ (List.mem_of_getElem? (i := 49) rfl)) (hw _ (List.mem_of_getElem? (i := 50) rfl)) (by decide) (own_exp l Z a0 hw n0 h89 xi xi i3 xj i4) (w := 1) (by decide) (by decide) pd_4 rfl (rest := [(.int ((up (up (fun _ => (0 : Int32)) xi.toNatClampNeg i3) xj.toNatClampNeg i4) xi.toNatClampNeg))]) rfl rfl (Nat.le_of_eq rfl) (by decide) (by decide) at_95 ?_
  rintro _ _ ⟨rfl, rfl⟩
  show Wk _ p l e _ s m _ below meth c n0 _ h89 8 16410 (mkF m 98 #[.val (.int i0), .val (.int i1), .val (.int i2), .val (.int i3), .val (.int i4), .val (.int xi), .val (.int xj), .val (.int xk), .val (.ref b2), .val (.int ((up (up (fun _ => (0 : Int32)) xi.toNatClampNeg i3) xj.toNatClampNeg i4) xi.toNatClampNeg)), .val (.int ((up (up (fun _ => (0 : Int32)) xi.toNatClampNeg i3) xj.toNatClampNeg i4) xj.toNatClampNeg)), .val (.int ((up (up (fun _ => (0 : Int32)) xi.toNatClampNeg i3) xj.toNatClampNeg i4) xk.toNatClampNeg))] [(.int (if xi = xj then i4 else if xi = xi then i3 else (0 : Int32))), (.int ((up (up (fun _ => (0 : Int32)) xi.toNatClampNeg i3) xj.toNatClampNeg i4) xi.toNatClampNeg))])
  refine Wk.st (g' := (mkF m 101 #[.val (.int i0), .val (.int i1), .val (.int i2), .val (.int i3), .val (.int i4), .val (.int xi), .val (.int xj), .val (.int xk), .val (.ref b2), .val (.int ((up (up (fun _ => (0 : Int32)) xi.toNatClampNeg i3) xj.toNatClampNeg i4) xi.toNatClampNeg)), .val (.int ((up (up (fun _ => (0 : Int32)) xi.toNatClampNeg i3) xj.toNatClampNeg i4) xj.toNatClampNeg)), .val (.int ((up (up (fun _ => (0 : Int32)) xi.toNatClampNeg i3) xj.toNatClampNeg i4) xk.toNatClampNeg))] [])) (fun X t q => XS.icmpNo X.here C.hx rfl (hb C.hby at_98) rfl (XT.ii_ne_f (get_exp rxi.1 rxi.1 rxj.1)) q) ?_
  refine Wk.st (g' := (mkF m 103 #[.val (.int i0), .val (.int i1), .val (.int i2), .val (.int i3), .val (.int i4), .val (.int xi), .val (.int xj), .val (.int xk), .val (.ref b2), .val (.int ((up (up (fun _ => (0 : Int32)) xi.toNatClampNeg i3) xj.toNatClampNeg i4) xi.toNatClampNeg)), .val (.int ((up (up (fun _ => (0 : Int32)) xi.toNatClampNeg i3) xj.toNatClampNeg i4) xj.toNatClampNeg)), .val (.int ((up (up (fun _ => (0 : Int32)) xi.toNatClampNeg i3) xj.toNatClampNeg i4) xk.toNatClampNeg))] [(.int ((up (up (fun _ => (0 : Int32)) xi.toNatClampNeg i3) xj.toNatClampNeg i4) xj.toNatClampNeg))])) (fun X t q => XS.iload X.here C.hx rfl (hb C.hby at_101) rfl q) ?_
  refine Wk.st (g' := (mkF m 105 #[.val (.int i0), .val (.int i1), .val (.int i2), .val (.int i3), .val (.int i4), .val (.int xi), .val (.int xj), .val (.int xk), .val (.ref b2), .val (.int ((up (up (fun _ => (0 : Int32)) xi.toNatClampNeg i3) xj.toNatClampNeg i4) xi.toNatClampNeg)), .val (.int ((up (up (fun _ => (0 : Int32)) xi.toNatClampNeg i3) xj.toNatClampNeg i4) xj.toNatClampNeg)), .val (.int ((up (up (fun _ => (0 : Int32)) xi.toNatClampNeg i3) xj.toNatClampNeg i4) xk.toNatClampNeg))] [(.int i4), (.int ((up (up (fun _ => (0 : Int32)) xi.toNatClampNeg i3) xj.toNatClampNeg i4) xj.toNatClampNeg))])) (fun X t q => XS.iload X.here C.hx rfl (hb C.hby at_103) rfl q) ?_
  refine Wk.st (g' := (mkF m 108 #[.val (.int i0), .val (.int i1), .val (.int i2), .val (.int i3), .val (.int i4), .val (.int xi), .val (.int xj), .val (.int xk), .val (.ref b2), .val (.int ((up (up (fun _ => (0 : Int32)) xi.toNatClampNeg i3) xj.toNatClampNeg i4) xi.toNatClampNeg)), .val (.int ((up (up (fun _ => (0 : Int32)) xi.toNatClampNeg i3) xj.toNatClampNeg i4) xj.toNatClampNeg)), .val (.int ((up (up (fun _ => (0 : Int32)) xi.toNatClampNeg i3) xj.toNatClampNeg i4) xk.toNatClampNeg))] [])) (fun X t q => XS.icmpNo X.here C.hx rfl (hb C.hby at_105) rfl (XT.ii_ne_f (by simp [up])) q) ?_
  refine Wk.st (g' := (mkF m 110 #[.val (.int i0), .val (.int i1), .val (.int i2), .val (.int i3), .val (.int i4), .val (.int xi), .val (.int xj), .val (.int xk), .val (.ref b2), .val (.int ((up (up (fun _ => (0 : Int32)) xi.toNatClampNeg i3) xj.toNatClampNeg i4) xi.toNatClampNeg)), .val (.int ((up (up (fun _ => (0 : Int32)) xi.toNatClampNeg i3) xj.toNatClampNeg i4) xj.toNatClampNeg)), .val (.int ((up (up (fun _ => (0 : Int32)) xi.toNatClampNeg i3) xj.toNatClampNeg i4) xk.toNatClampNeg))] [(.int ((up (up (fun _ => (0 : Int32)) xi.toNatClampNeg i3) xj.toNatClampNeg i4) xk.toNatClampNeg))])) (fun X t q => XS.iload X.here C.hx rfl (hb C.hby at_108) rfl q) ?_
  refine Wk.st (g' := (mkF m 112 #[.val (.int i0), .val (.int i1), .val (.int i2), .val (.int i3), .val (.int i4), .val (.int xi), .val (.int xj), .val (.int xk), .val (.ref b2), .val (.int ((up (up (fun _ => (0 : Int32)) xi.toNatClampNeg i3) xj.toNatClampNeg i4) xi.toNatClampNeg)), .val (.int ((up (up (fun _ => (0 : Int32)) xi.toNatClampNeg i3) xj.toNatClampNeg i4) xj.toNatClampNeg)), .val (.int ((up (up (fun _ => (0 : Int32)) xi.toNatClampNeg i3) xj.toNatClampNeg i4) xk.toNatClampNeg))] [(.int xk), (.int ((up (up (fun _ => (0 : Int32)) xi.toNatClampNeg i3) xj.toNatClampNeg i4) xk.toNatClampNeg))])) (fun X t q => XS.iload X.here C.hx rfl (hb C.hby at_110) rfl q) ?_
  refine Wk.st (g' := (mkF m 114 #[.val (.int i0), .val (.int i1), .val (.int i2), .val (.int i3), .val (.int i4), .val (.int xi), .val (.int xj), .val (.int xk), .val (.ref b2), .val (.int ((up (up (fun _ => (0 : Int32)) xi.toNatClampNeg i3) xj.toNatClampNeg i4) xi.toNatClampNeg)), .val (.int ((up (up (fun _ => (0 : Int32)) xi.toNatClampNeg i3) xj.toNatClampNeg i4) xj.toNatClampNeg)), .val (.int ((up (up (fun _ => (0 : Int32)) xi.toNatClampNeg i3) xj.toNatClampNeg i4) xk.toNatClampNeg))] [(.int xi), (.int xk), (.int ((up (up (fun _ => (0 : Int32)) xi.toNatClampNeg i3) xj.toNatClampNeg i4) xk.toNatClampNeg))])) (fun X t q => XS.iload X.here C.hx rfl (hb C.hby at_112) rfl q) ?_
  refine Wk.st (g' := (mkF m 115 #[.val (.int i0), .val (.int i1), .val (.int i2), .val (.int i3), .val (.int i4), .val (.int xi), .val (.int xj), .val (.int xk), .val (.ref b2), .val (.int ((up (up (fun _ => (0 : Int32)) xi.toNatClampNeg i3) xj.toNatClampNeg i4) xi.toNatClampNeg)), .val (.int ((up (up (fun _ => (0 : Int32)) xi.toNatClampNeg i3) xj.toNatClampNeg i4) xj.toNatClampNeg)), .val (.int ((up (up (fun _ => (0 : Int32)) xi.toNatClampNeg i3) xj.toNatClampNeg i4) xk.toNatClampNeg))] [(.int i3), (.int xi), (.int xk), (.int ((up (up (fun _ => (0 : Int32)) xi.toNatClampNeg i3) xj.toNatClampNeg i4) xk.toNatClampNeg))])) (fun X t q => XS.iloadN X.here C.hx rfl (hb C.hby at_114) rfl q) ?_
  refine Wk.st (g' := (mkF m 117 #[.val (.int i0), .val (.int i1), .val (.int i2), .val (.int i3), .val (.int i4), .val (.int xi), .val (.int xj), .val (.int xk), .val (.ref b2), .val (.int ((up (up (fun _ => (0 : Int32)) xi.toNatClampNeg i3) xj.toNatClampNeg i4) xi.toNatClampNeg)), .val (.int ((up (up (fun _ => (0 : Int32)) xi.toNatClampNeg i3) xj.toNatClampNeg i4) xj.toNatClampNeg)), .val (.int ((up (up (fun _ => (0 : Int32)) xi.toNatClampNeg i3) xj.toNatClampNeg i4) xk.toNatClampNeg))] [(.int xj), (.int i3), (.int xi), (.int xk), (.int ((up (up (fun _ => (0 : Int32)) xi.toNatClampNeg i3) xj.toNatClampNeg i4) xk.toNatClampNeg))])) (fun X t q => XS.iload X.here C.hx rfl (hb C.hby at_115) rfl q) ?_
  refine Wk.st (g' := (mkF m 119 #[.val (.int i0), .val (.int i1), .val (.int i2), .val (.int i3), .val (.int i4), .val (.int xi), .val (.int xj), .val (.int xk), .val (.ref b2), .val (.int ((up (up (fun _ => (0 : Int32)) xi.toNatClampNeg i3) xj.toNatClampNeg i4) xi.toNatClampNeg)), .val (.int ((up (up (fun _ => (0 : Int32)) xi.toNatClampNeg i3) xj.toNatClampNeg i4) xj.toNatClampNeg)), .val (.int ((up (up (fun _ => (0 : Int32)) xi.toNatClampNeg i3) xj.toNatClampNeg i4) xk.toNatClampNeg))] [(.int i4), (.int xj), (.int i3), (.int xi), (.int xk), (.int ((up (up (fun _ => (0 : Int32)) xi.toNatClampNeg i3) xj.toNatClampNeg i4) xk.toNatClampNeg))])) (fun X t q => XS.iload X.here C.hx rfl (hb C.hby at_117) rfl q) ?_
  refine Wk.callS C (z := (⟨"com/example/torino/torino/IntBlocksGetPinLaw", "expected", "(IIIII)I"⟩ : MethodName)) (hw _ (List.mem_of_getElem? (i := 47) rfl)) (hw _ (List.mem_of_getElem? (i := 48) rfl)) (hw _ (List.mem_of_getElem? (i := 49) rfl)) (hw _ (List.mem_of_getElem? (i := 50) rfl)) (by decide) (own_exp l Z a0 hw n0 h89 xk xi i3 xj i4) (w := 1) (by decide) (by decide) pd_4 rfl (rest := [(.int ((up (up (fun _ => (0 : Int32)) xi.toNatClampNeg i3) xj.toNatClampNeg i4) xk.toNatClampNeg))]) rfl rfl (Nat.le_of_eq rfl) (by decide) (by decide) at_119 ?_
  rintro _ _ ⟨rfl, rfl⟩
  show Wk _ p l e _ s m _ below meth c n0 _ h89 8 16410 (mkF m 122 #[.val (.int i0), .val (.int i1), .val (.int i2), .val (.int i3), .val (.int i4), .val (.int xi), .val (.int xj), .val (.int xk), .val (.ref b2), .val (.int ((up (up (fun _ => (0 : Int32)) xi.toNatClampNeg i3) xj.toNatClampNeg i4) xi.toNatClampNeg)), .val (.int ((up (up (fun _ => (0 : Int32)) xi.toNatClampNeg i3) xj.toNatClampNeg i4) xj.toNatClampNeg)), .val (.int ((up (up (fun _ => (0 : Int32)) xi.toNatClampNeg i3) xj.toNatClampNeg i4) xk.toNatClampNeg))] [(.int (if xk = xj then i4 else if xk = xi then i3 else (0 : Int32))), (.int ((up (up (fun _ => (0 : Int32)) xi.toNatClampNeg i3) xj.toNatClampNeg i4) xk.toNatClampNeg))])
  refine Wk.st (g' := (mkF m 125 #[.val (.int i0), .val (.int i1), .val (.int i2), .val (.int i3), .val (.int i4), .val (.int xi), .val (.int xj), .val (.int xk), .val (.ref b2), .val (.int ((up (up (fun _ => (0 : Int32)) xi.toNatClampNeg i3) xj.toNatClampNeg i4) xi.toNatClampNeg)), .val (.int ((up (up (fun _ => (0 : Int32)) xi.toNatClampNeg i3) xj.toNatClampNeg i4) xj.toNatClampNeg)), .val (.int ((up (up (fun _ => (0 : Int32)) xi.toNatClampNeg i3) xj.toNatClampNeg i4) xk.toNatClampNeg))] [])) (fun X t q => XS.icmpNo X.here C.hx rfl (hb C.hby at_122) rfl (XT.ii_ne_f (get_exp rxk.1 rxi.1 rxj.1)) q) ?_
  refine Wk.st (g' := (mkF m 126 #[.val (.int i0), .val (.int i1), .val (.int i2), .val (.int i3), .val (.int i4), .val (.int xi), .val (.int xj), .val (.int xk), .val (.ref b2), .val (.int ((up (up (fun _ => (0 : Int32)) xi.toNatClampNeg i3) xj.toNatClampNeg i4) xi.toNatClampNeg)), .val (.int ((up (up (fun _ => (0 : Int32)) xi.toNatClampNeg i3) xj.toNatClampNeg i4) xj.toNatClampNeg)), .val (.int ((up (up (fun _ => (0 : Int32)) xi.toNatClampNeg i3) xj.toNatClampNeg i4) xk.toNatClampNeg))] [(.int (1 : Int32))])) (fun X t q => XS.iconst X.here C.hx rfl (hb C.hby at_125) q) ?_
  refine Wk.st (g' := (mkF m 130 #[.val (.int i0), .val (.int i1), .val (.int i2), .val (.int i3), .val (.int i4), .val (.int xi), .val (.int xj), .val (.int xk), .val (.ref b2), .val (.int ((up (up (fun _ => (0 : Int32)) xi.toNatClampNeg i3) xj.toNatClampNeg i4) xi.toNatClampNeg)), .val (.int ((up (up (fun _ => (0 : Int32)) xi.toNatClampNeg i3) xj.toNatClampNeg i4) xj.toNatClampNeg)), .val (.int ((up (up (fun _ => (0 : Int32)) xi.toNatClampNeg i3) xj.toNatClampNeg i4) xk.toNatClampNeg))] [(.int (1 : Int32))])) (fun X t q => XS.goto X.here C.hx rfl (pc0 := 126) (pc' := 130) rfl (hb C.hby at_126) (by decide) (by decide) q) ?_
  exact Wk.retV C (t := .boolean) rfl rfl (Or.inl ⟨rfl, by simp, _, rfl⟩) at_130 (by decide) (by decide) ⟨rfl, trivial⟩
set_option maxRecDepth 65536 in
set_option maxHeartbeats 40000000 in
theorem comes_1 {Post : Tables → Env → Array Value → State → Outcome → State → Prop} (hpost : ∀ tb e args s v u, (limb_1_1.after args s (.returned v) u = true ∧ limb_1_2.after args s (.returned v) u = true ∧ True) → ReturnedEndW s (.returned v) u (Jvm.fieldLocs frame_1_writes args s ++ Jvm.arrayLocs frame_1_arrays args s ++ Jvm.staticLocs frame_1_statics s) 24 33920 → Post tb e args s (.returned v) u) :
    ArmFor flags0 classFile x code maxLocals ret World_1 tables_1 room_1 Calls_1 rest_1 Pre_1 Post := by
  intro l hfl _ _ p e ha hc hk s m args below hf hA hF happ hP
  obtain ⟨hcalls, hrest, hpre⟩ := hP
  obtain ⟨-, -, -, hnamed, -, -, -, hat⟩ := (Spec.applies_iff hf).mp happ
  obtain ⟨hg, hn⟩ := and_e (Cond.before_iff.mp (show (Jvm.Cond.and given_1 narrow_1).before args s = true from hpre))
  obtain ⟨hcount, g0⟩ := and_e hg
  obtain ⟨v0, v1, v2, v3, v4, rfl⟩ : ∃ v0 v1 v2 v3 v4 : Value, args = #[v0, v1, v2, v3, v4] := by
    have hs : args.size = 5 := by simpa [Cond.value, given_1] using hcount
    obtain ⟨L⟩ := args
    match L, hs with
    | [v0, v1, v2, v3, v4], _ => exact ⟨v0, v1, v2, v3, v4, rfl⟩
  have hw := fun d (hd : d ∈ tables_1) => atoms_spec (ws := Jvm.Cond.code x code maxLocals ret :: tables_1) hat d (List.mem_cons_of_mem _ hd)
  have hfit : Fit s := fun {y c} hc i hi => by
    obtain ⟨ha, rfl⟩ := Array.getElem?_eq_some_iff.mp hc
    have q := List.all_eq_true.mp ((Array.all_eq_true_iff_forall_mem.mp hF) _ (Array.getElem_mem ha)) i (List.mem_range.mpr hi)
    simpa [Array.getElem?_eq_getElem hi] using q
  obtain ⟨e0, g1⟩ := and_e g0
  obtain ⟨i0, f0⟩ := is_v e0
  obtain rfl : v0 = (.int i0) := Option.some.inj f0
  obtain ⟨e1, g2⟩ := and_e g1
  obtain ⟨i1, f1⟩ := is_v e1
  obtain rfl : v1 = (.int i1) := Option.some.inj f1
  obtain ⟨e2, g3⟩ := and_e g2
  obtain ⟨i2, f2⟩ := is_v e2
  obtain rfl : v2 = (.int i2) := Option.some.inj f2
  obtain ⟨e3, g4⟩ := and_e g3
  obtain ⟨i3, f3⟩ := is_v e3
  obtain rfl : v3 = (.int i3) := Option.some.inj f3
  obtain ⟨i4, f4⟩ := is_v g4
  obtain rfl : v4 = (.int i4) := Option.some.inj f4
  obtain ⟨n, o, h1, h2, h3, _, L, rfl, ⟨⟨rfl, -⟩, N⟩, hq⟩ := law_met l s _ hw s.heap.size s.heap (Nat.le_refl _) i0 i1 i2 i3 i4 tables_1 p e ha hc hk s m _ below hf ((Spec.applies_iff_loose hf).mp happ).1 ⟨rfl, State.Warmed39.refl s, rfl⟩ trivial
  refine ⟨n, _, h1, h2, h3, hpost _ _ _ _ _ _ ⟨Cond.after_iff.mpr rfl, Cond.after_iff.mpr (eq_i res_at (Term.int_eval (1)) rfl), trivial⟩ ⟨hq.1, hq.2.1, hq.2.2.1, (hq.2.2.2.sift fun y hy => Or.inr (N y hy)).mono (by decide) (by decide)⟩⟩
theorem main_1_1 : Claimed_1_1 := comes_1 fun _ _ _ _ _ _ h hF => ⟨h.1, hF⟩
theorem main_1_2 : Claimed_1_2 := comes_1 fun _ _ _ _ _ _ h hF => ⟨h.2.1, hF⟩
end Jvm.Pilot.@@N@@
namespace Jvm.Pilot.@@N@@
open Jvm Jvm.ClassFile Sem Op Lib Jvm.Free Jvm.Stand Jvm.Pilot.@@N@@.Jvm.D
/-! MADE BY PROGRAM (witnessworld.py) out of the Statement's table words and the real class files: 15 classes; the members and pool entries that the words name. The judged class is class 1, her method 2. -/
namespace start1
open Jvm.ClassFile
def u (s : String) : CpInfo := .utf8 (stringToUtf16 s)
/-- a pool by its gaps: so many unusable entries, then the entry; so many at the end -/
def gap : Nat → List CpInfo → List CpInfo
  | 0, r => r
  | n + 1, r => .unusable :: gap n r
def poolList (es : List (Nat × CpInfo)) (last : Nat) : List CpInfo := es.foldr (fun e r => gap e.1 (e.2 :: r)) (gap last [])
def pool (es : List (Nat × CpInfo)) (last : Nat) : Array CpInfo := ⟨poolList es last⟩
def fileOf (pool : Array CpInfo) (this : Nat) (attrs : Array Attribute := #[]) (ms : Array MethodInfo := #[]) (fl : Nat := 33) (sup : Nat := 0) (ifs : Array Nat := #[]) (fds : Array FieldInfo := #[]) : ClassFile where
  minorVersion := 0
  majorVersion := 65
  constantPool := pool
  accessFlags := fl
  thisClass := this
  superClass := sup
  interfaces := ifs
  fields := fds
  methods := ms
  attributes := attrs
def plain (name : String) (sup : Option ClassId) : Class where
  name := name
  kind := .ordinary
  loader := none
  accessFlags := 33
  super := sup
  interfaces := #[]
  cf := none
  fields := #[]
  methods := #[]
  instanceTypes := #[]
  staticTypes := #[]
  resolved := #[]
  callSites := []
  init := .initialized
  statics := none
  mirror := none

def pool0 : Array CpInfo := pool [(5, u "<init>"), (0, u "()V"), (1, .class_ 10), (1, u "java/lang/Object")] 113

def k0c0 : Code := { maxStack := 0, maxLocals := 1, code := object_method_1_code, exceptionTable := #[], attributes := #[] }
def k0m0 : Method := { name := "<init>", desc := "()V", sig := { parameters := [], returnType := none }, accessFlags := 1, code := some k0c0 }
/-- java/lang/Object -/
def k0 : Class := { plain "java/lang/Object" none with
  accessFlags := 33
  interfaces := #[]
  cf := some (fileOf pool0 8 #[] #[{ accessFlags := 1, nameIndex := 5, descriptorIndex := 6, attributes := #[] }] 33 0 #[] #[])
  fields := #[]
  methods := #[k0m0]
  instanceTypes := #[]
  staticTypes := #[]
  resolved := Array.replicate 124 none
  statics := none }

def pool1 : Array CpInfo := pool [(2, .class_ 4), (0, .nameAndType 5 6), (0, u "java/lang/Object"), (0, u "<init>"), (0, u "()V"), (0, .class_ 8), (0, u "com/example/torino/torino/IntBlocks"), (0, .methodref 7 3), (0, .long 16384), (1, .string 13), (0, u "x"), (0, .methodref 7 15), (0, .nameAndType 16 17), (0, u "makeRoom"), (0, u "(JLjava/lang/String;)V"), (0, .methodref 7 19), (0, .nameAndType 20 21), (0, u "set"), (0, u "(II)V"), (0, .methodref 7 23), (0, .nameAndType 24 25), (0, u "get"), (0, u "(I)I"), (0, .methodref 27 28), (0, .class_ 29), (0, .nameAndType 30 31), (0, u "com/example/torino/torino/IntBlocksGetPinLaw"), (0, u "expected"), (0, u "(IIIII)I"), (3, u "law"), (0, u "(IIIII)Z")] 5

def k1m0 : Method := { name := "<init>", desc := "()V", sig := { parameters := [], returnType := none }, accessFlags := 1, code := none }
def k1c1 : Code := { maxStack := 2, maxLocals := 5, code := method_2_code, exceptionTable := #[], attributes := #[] }
def k1m1 : Method := { name := "expected", desc := "(IIIII)I", sig := { parameters := [.int, .int, .int, .int, .int], returnType := some .int }, accessFlags := 10, code := some k1c1 }
def k1c2 : Code := { maxStack := 6, maxLocals := 12, code := code, exceptionTable := #[], attributes := #[] }
def k1m2 : Method := { name := "law", desc := "(IIIII)Z", sig := { parameters := [.int, .int, .int, .int, .int], returnType := some .boolean }, accessFlags := 9, code := some k1c2 }
/-- com/example/torino/torino/IntBlocksGetPinLaw -/
def k1 : Class := { plain "com/example/torino/torino/IntBlocksGetPinLaw" (some 0) with
  accessFlags := 49
  interfaces := #[]
  cf := some (fileOf pool1 27 #[] #[{ accessFlags := 1, nameIndex := 5, descriptorIndex := 6, attributes := #[] }, { accessFlags := 10, nameIndex := 30, descriptorIndex := 31, attributes := #[] }, { accessFlags := 9, nameIndex := 35, descriptorIndex := 36, attributes := #[] }] 49 2 #[] #[])
  fields := #[]
  methods := #[k1m0, k1m1, k1m2]
  instanceTypes := #[]
  staticTypes := #[]
  resolved := Array.replicate 42 none
  statics := none }

def pool2 : Array CpInfo := pool [(1, .class_ 2), (0, u "com/example/torino/torino/IntBlocks"), (0, .methodref 4 5), (0, .class_ 6), (0, .nameAndType 7 8), (0, u "java/lang/Object"), (0, u "<init>"), (0, u "()V"), (0, .class_ 10), (0, u "[I"), (0, .fieldref 1 12), (0, .nameAndType 13 14), (0, u "blocks"), (0, u "[[I"), (0, .fieldref 1 16), (0, .nameAndType 17 18), (0, u "blockCount"), (0, u "I"), (0, .methodref 20 21), (0, .class_ 22), (0, .nameAndType 23 24), (0, u "com/example/torino/torino/ArrayLengths"), (0, u "checkLength"), (0, u "(JLjava/lang/String;)V"), (0, .long 4095), (1, .long 2147483639), (24, u "BLOCK_BITS"), (2, u "BLOCK_LENGTH"), (1, u "IN_BLOCK"), (3, u "get"), (0, u "(I)I"), (0, u "set"), (0, u "(II)V"), (0, u "makeRoom")] 8

def k2c0 : Code := { maxStack := 3, maxLocals := 1, code := prog_11_method_1_code, exceptionTable := #[], attributes := #[] }
def k2m0 : Method := { name := "<init>", desc := "()V", sig := { parameters := [], returnType := none }, accessFlags := 0, code := some k2c0 }
def k2c1 : Code := { maxStack := 3, maxLocals := 2, code := prog_11_method_2_code, exceptionTable := #[], attributes := #[] }
def k2m1 : Method := { name := "get", desc := "(I)I", sig := { parameters := [.int], returnType := some .int }, accessFlags := 0, code := some k2c1 }
def k2c2 : Code := { maxStack := 3, maxLocals := 3, code := prog_11_method_3_code, exceptionTable := #[], attributes := #[] }
def k2m2 : Method := { name := "set", desc := "(II)V", sig := { parameters := [.int, .int], returnType := none }, accessFlags := 0, code := some k2c2 }
def k2c3 : Code := { maxStack := 8, maxLocals := 5, code := prog_11_method_4_code, exceptionTable := #[], attributes := #[] }
def k2m3 : Method := { name := "makeRoom", desc := "(JLjava/lang/String;)V", sig := { parameters := [.long, (.object "java/lang/String")], returnType := none }, accessFlags := 0, code := some k2c3 }
/-- com/example/torino/torino/IntBlocks -/
def k2 : Class := { plain "com/example/torino/torino/IntBlocks" (some 0) with
  accessFlags := 32
  interfaces := #[]
  cf := some (fileOf pool2 1 #[] #[{ accessFlags := 0, nameIndex := 7, descriptorIndex := 8, attributes := #[] }, { accessFlags := 0, nameIndex := 61, descriptorIndex := 62, attributes := #[] }, { accessFlags := 0, nameIndex := 63, descriptorIndex := 64, attributes := #[] }, { accessFlags := 0, nameIndex := 65, descriptorIndex := 24, attributes := #[] }] 32 4 #[] #[{ accessFlags := 26, nameIndex := 52, descriptorIndex := 18, attributes := #[] }, { accessFlags := 26, nameIndex := 55, descriptorIndex := 18, attributes := #[] }, { accessFlags := 26, nameIndex := 57, descriptorIndex := 18, attributes := #[] }, { accessFlags := 2, nameIndex := 13, descriptorIndex := 14, attributes := #[] }, { accessFlags := 2, nameIndex := 17, descriptorIndex := 18, attributes := #[] }])
  fields := #[{ name := "BLOCK_BITS", type := .int, accessFlags := 26, slot := 0, constantValue := 0 }, { name := "BLOCK_LENGTH", type := .int, accessFlags := 26, slot := 1, constantValue := 0 }, { name := "IN_BLOCK", type := .int, accessFlags := 26, slot := 2, constantValue := 0 }, { name := "blocks", type := (.array (.array .int)), accessFlags := 2, slot := 0, constantValue := 0 }, { name := "blockCount", type := .int, accessFlags := 2, slot := 1, constantValue := 0 }]
  methods := #[k2m0, k2m1, k2m2, k2m3]
  instanceTypes := #[(.array (.array .int)), .int]
  staticTypes := #[.int, .int, .int]
  resolved := Array.replicate 74 none
  statics := none }

def pool3 : Array CpInfo := pool [(1, .class_ 2), (0, u "java/io/Serializable"), (0, .class_ 4), (0, u "java/lang/Object")] 2

/-- java/io/Serializable -/
def k3 : Class := { plain "java/io/Serializable" (some 0) with
  accessFlags := 1537
  interfaces := #[]
  cf := some (fileOf pool3 1 #[] #[] 1537 3 #[] #[])
  fields := #[]
  methods := #[]
  instanceTypes := #[]
  staticTypes := #[]
  resolved := Array.replicate 7 none
  statics := none }

def pool4 : Array CpInfo := pool [(1, .class_ 2), (0, u "java/lang/Comparable"), (0, .class_ 4), (0, u "java/lang/Object")] 7

/-- java/lang/Comparable -/
def k4 : Class := { plain "java/lang/Comparable" (some 0) with
  accessFlags := 1537
  interfaces := #[]
  cf := some (fileOf pool4 1 #[] #[] 1537 3 #[] #[])
  fields := #[]
  methods := #[]
  instanceTypes := #[]
  staticTypes := #[]
  resolved := Array.replicate 12 none
  statics := none }

def pool5 : Array CpInfo := pool [(2, .class_ 4), (1, u "java/lang/CharSequence"), (42, .class_ 48), (0, u "java/lang/CharSequence$1CodePointIterator"), (10, .class_ 60), (0, u "java/lang/CharSequence$1CharIterator"), (5, .class_ 67), (0, u "java/lang/Object")] 63

/-- java/lang/CharSequence -/
def k5 : Class := { plain "java/lang/CharSequence" (some 0) with
  accessFlags := 1537
  interfaces := #[]
  cf := some (fileOf pool5 2 #[.nestMembers #[47, 59]] #[] 1537 66 #[] #[])
  fields := #[]
  methods := #[]
  instanceTypes := #[]
  staticTypes := #[]
  resolved := Array.replicate 131 none
  statics := none }

def pool6 : Array CpInfo := pool [(1, .class_ 2), (0, u "java/lang/constant/Constable"), (0, .class_ 4), (0, u "java/lang/Object")] 6

/-- java/lang/constant/Constable -/
def k6 : Class := { plain "java/lang/constant/Constable" (some 0) with
  accessFlags := 1537
  interfaces := #[]
  cf := some (fileOf pool6 1 #[] #[] 1537 3 #[] #[])
  fields := #[]
  methods := #[]
  instanceTypes := #[]
  staticTypes := #[]
  resolved := Array.replicate 11 none
  statics := none }

def pool7 : Array CpInfo := pool [(1, .class_ 2), (0, u "java/lang/constant/ConstantDesc"), (0, .class_ 4), (0, u "java/lang/Object")] 32

/-- java/lang/constant/ConstantDesc -/
def k7 : Class := { plain "java/lang/constant/ConstantDesc" (some 0) with
  accessFlags := 1537
  interfaces := #[]
  cf := some (fileOf pool7 1 #[] #[] 1537 3 #[] #[])
  fields := #[]
  methods := #[]
  instanceTypes := #[]
  staticTypes := #[]
  resolved := Array.replicate 37 none
  statics := none }

def pool8 : Array CpInfo := pool [(2, .class_ 4), (1, u "java/lang/Object"), (0, u "<init>"), (0, u "()V"), (3, .class_ 12), (1, u "java/lang/String"), (0, u "value"), (0, u "[B"), (2, u "coder"), (0, u "B"), (2, u "hash"), (0, u "I"), (2, u "hashIsZero"), (0, u "Z"), (13, u "COMPACT_STRINGS"), (534, .class_ 576), (0, u "java/lang/CharSequence"), (22, u "CASE_INSENSITIVE_ORDER"), (0, u "Ljava/util/Comparator;"), (500, u "serialPersistentFields"), (0, u "[Ljava/io/ObjectStreamField;"), (0, .class_ 1104), (0, u "java/lang/String$CaseInsensitiveComparator"), (1, .class_ 1107), (0, u "java/io/Serializable"), (0, .class_ 1109), (0, u "java/lang/Comparable"), (0, .class_ 1111), (0, u "java/lang/constant/Constable"), (0, .class_ 1113), (0, u "java/lang/constant/ConstantDesc"), (2, u "serialVersionUID"), (0, u "J"), (3, u "REPL"), (0, u "C"), (2, u "LATIN1"), (1, u "UTF16")] 323

def k8m0 : Method := { name := "<init>", desc := "()V", sig := { parameters := [], returnType := none }, accessFlags := 1, code := none }
/-- java/lang/String -/
def k8 : Class := { plain "java/lang/String" (some 0) with
  accessFlags := 49
  interfaces := #[3, 4, 5, 6, 7]
  cf := some (fileOf pool8 10 #[.nestMembers #[1103]] #[{ accessFlags := 1, nameIndex := 5, descriptorIndex := 6, attributes := #[] }] 49 2 #[1106, 1108, 575, 1110, 1112] #[{ accessFlags := 18, nameIndex := 13, descriptorIndex := 14, attributes := #[] }, { accessFlags := 18, nameIndex := 17, descriptorIndex := 18, attributes := #[] }, { accessFlags := 2, nameIndex := 21, descriptorIndex := 22, attributes := #[] }, { accessFlags := 2, nameIndex := 25, descriptorIndex := 26, attributes := #[] }, { accessFlags := 26, nameIndex := 1116, descriptorIndex := 1117, attributes := #[] }, { accessFlags := 24, nameIndex := 40, descriptorIndex := 26, attributes := #[] }, { accessFlags := 26, nameIndex := 1101, descriptorIndex := 1102, attributes := #[] }, { accessFlags := 26, nameIndex := 1121, descriptorIndex := 1122, attributes := #[] }, { accessFlags := 25, nameIndex := 599, descriptorIndex := 600, attributes := #[] }, { accessFlags := 24, nameIndex := 1125, descriptorIndex := 18, attributes := #[] }, { accessFlags := 24, nameIndex := 1127, descriptorIndex := 18, attributes := #[] }])
  fields := #[{ name := "value", type := (.array .byte), accessFlags := 18, slot := 0, constantValue := 0 }, { name := "coder", type := .byte, accessFlags := 18, slot := 1, constantValue := 0 }, { name := "hash", type := .int, accessFlags := 2, slot := 2, constantValue := 0 }, { name := "hashIsZero", type := .boolean, accessFlags := 2, slot := 3, constantValue := 0 }, { name := "serialVersionUID", type := .long, accessFlags := 26, slot := 0, constantValue := 0 }, { name := "COMPACT_STRINGS", type := .boolean, accessFlags := 24, slot := 1, constantValue := 0 }, { name := "serialPersistentFields", type := (.array (.object "java/io/ObjectStreamField")), accessFlags := 26, slot := 2, constantValue := 0 }, { name := "REPL", type := .char, accessFlags := 26, slot := 3, constantValue := 0 }, { name := "CASE_INSENSITIVE_ORDER", type := (.object "java/util/Comparator"), accessFlags := 25, slot := 4, constantValue := 0 }, { name := "LATIN1", type := .byte, accessFlags := 24, slot := 5, constantValue := 0 }, { name := "UTF16", type := .byte, accessFlags := 24, slot := 6, constantValue := 0 }]
  methods := #[k8m0]
  instanceTypes := #[(.array .byte), .byte, .int, .boolean]
  staticTypes := #[.long, .boolean, (.array (.object "java/io/ObjectStreamField")), .char, (.object "java/util/Comparator"), .byte, .byte]
  resolved := Array.replicate 1451 none
  statics := none }

def pool9 : Array CpInfo := pool [(4, .class_ 6), (1, u "java/lang/Object"), (0, u "<init>"), (0, u "()V"), (0, .class_ 10), (0, u "com/example/torino/torino/ArrayLengths"), (0, .long 2147483639), (12, u "checkLength"), (0, u "(JLjava/lang/String;)V"), (11, u "LONGEST"), (0, u "I")] 25

def k9m0 : Method := { name := "<init>", desc := "()V", sig := { parameters := [], returnType := none }, accessFlags := 2, code := none }
def k9c1 : Code := { maxStack := 4, maxLocals := 3, code := prog_2_method_2_code, exceptionTable := #[], attributes := #[] }
def k9m1 : Method := { name := "checkLength", desc := "(JLjava/lang/String;)V", sig := { parameters := [.long, (.object "java/lang/String")], returnType := none }, accessFlags := 8, code := some k9c1 }
/-- com/example/torino/torino/ArrayLengths -/
def k9 : Class := { plain "com/example/torino/torino/ArrayLengths" (some 0) with
  accessFlags := 32
  interfaces := #[]
  cf := some (fileOf pool9 9 #[] #[{ accessFlags := 2, nameIndex := 7, descriptorIndex := 8, attributes := #[] }, { accessFlags := 8, nameIndex := 24, descriptorIndex := 25, attributes := #[] }] 32 4 #[] #[{ accessFlags := 24, nameIndex := 37, descriptorIndex := 38, attributes := #[] }])
  fields := #[{ name := "LONGEST", type := .int, accessFlags := 24, slot := 0, constantValue := 0 }]
  methods := #[k9m0, k9m1]
  instanceTypes := #[]
  staticTypes := #[.int]
  resolved := Array.replicate 64 none
  statics := none }

def pool10 : Array CpInfo := pool [(1, u "java/lang/Cloneable"), (0, .class_ 1), (0, u "java/lang/Object"), (0, .class_ 3)] 3

/-- java/lang/Cloneable -/
def k10 : Class := { plain "java/lang/Cloneable" (some 0) with
  accessFlags := 1537
  interfaces := #[]
  cf := some (fileOf pool10 2 #[] #[] 1537 4 #[] #[])
  fields := #[]
  methods := #[]
  instanceTypes := #[]
  staticTypes := #[]
  resolved := Array.replicate 8 none
  statics := none }

/-- the primitive byte -/
def k11 : Class := { plain "byte" none with kind := .primitive 'B', accessFlags := 0x411 }
/-- [B -/
def k12 : Class := { plain "[B" (some 0) with kind := .array 11 .byte, interfaces := #[10, 3], accessFlags := 1041 }

/-- the primitive int -/
def k13 : Class := { plain "int" none with kind := .primitive 'I', accessFlags := 0x411 }
/-- [I -/
def k14 : Class := { plain "[I" (some 0) with kind := .array 13 .int, interfaces := #[10, 3], accessFlags := 1041 }

def heap : Heap := #[]
def k15 : Class := { plain "[[I" (some 0) with kind := .array 14 (.array .int), interfaces := #[10, 3], accessFlags := 1041 }
def classes : Array Class := #[k0, k1, k2, k3, k4, k5, k6, k7, k8, k9, k10, k11, k12, k13, k14, k15]
def interned : List (Array UInt16 × Addr) := []
def slotsUsed : Nat := 0
def theMethod : MethodId := ⟨1, 2⟩
def args0 : Array Value := #[.int 5, .int 6, .int 7, .int 8, .int 9]
def aboutOver (below : List Frame) : State where
  vm := { classes := classes, interned := interned.toArray }
  heap := heap
  slotsUsed := slotsUsed
  threads := #[{ frames := .invoking theMethod args0 :: below }]
def below0 : List Frame := [.native { method := ⟨0, 0⟩, args := #[] }]
def about1 : State := aboutOver below0
def p0 : Program := .bare "" "" ""
def e0 : Env := launch0.env 0 0 0
theorem w_frames : about1.frames = Frame.invoking theMethod args0 :: below0 := rfl
set_option maxRecDepth 65536 in
theorem w_args : argsFit about1.vm theMethod args0 = true := by decide +kernel
set_option maxRecDepth 65536 in
theorem w_heap : heapFits about1 = true := by decide +kernel
set_option maxRecDepth 65536 in
theorem w_runnable : about1.curStatus? = some .runnable := by decide +kernel
set_option maxRecDepth 65536 in
theorem w_alone : about1.alone = true := by decide +kernel
set_option maxRecDepth 65536 in
theorem w_named : about1.methodNamed? x = some theMethod := by decide +kernel
set_option maxRecDepth 65536 in
theorem w_hears : about1.hears theMethod below0 = true := by decide +kernel
set_option maxRecDepth 65536 in
theorem w_ripe : about1.ripe theMethod args0 below0 = true := by decide +kernel
theorem w_running : about1.status = .running := rfl
set_option maxRecDepth 65536 in
theorem w_room : about1.hasRoom e0.platform room_1 = true :=
  launch0.hasRoom_least _ room_1 (by decide +kernel) (by decide +kernel) (by decide +kernel) (by decide +kernel) (by decide +kernel) (by decide +kernel)
theorem allAtoms_all (ts : List Jvm.Cond) (a : Array Jvm.Value) (st : Jvm.State) : (allAtoms ts).before a st = ts.all (fun c => c.before a st) := by
  induction ts with
  | nil => rfl
  | cons c t ih =>
    show (Jvm.Cond.and c (allAtoms t)).before a st = _
    rw [Jvm.Cond.before_and, ih, List.all_cons]
def words1 : List Jvm.Cond := Jvm.Cond.code x code maxLocals ret :: tables_1
/-- a 'code' word, met by the world's own term for the bytes: nothing is compared byte by byte -/
theorem code_word {y : MethodName} {bytes : ByteArray} {mx : Nat} {rt : Option FieldType} {a : Array Value} {s : State} {m : MethodId} {meth : Method} {c : Code} (h1 : s.methodNamed? y = some m) (h2 : s.vm.method? m = some meth) (h3 : meth.code = some c) (h4 : c.code = bytes)
    (h5 : (c.maxLocals == mx && c.exceptionTable.isEmpty && decide (c.maxStack ≤ mostOperands) && decide (meth.sig.returnType = rt) && !meth.locks && decide (parseMethodDescriptor y.desc = some meth.sig)) = true) : (Jvm.Cond.code y bytes mx rt).before a s = true := by
  simp only [Bool.and_eq_true, beq_iff_eq, Bool.not_eq_true', decide_eq_true_eq] at h5
  obtain ⟨⟨⟨⟨⟨g1, g2⟩, g3⟩, g4⟩, g5⟩, g6⟩ := h5
  simp [Cond.before, Cond.holds, Cond.value, h1, h2, h3, h4, g1, g2, g3, g4, g5, g6]
def isCode : Jvm.Cond → Bool
  | .code _ _ _ _ => true
  | _ => false
theorem all_split {L : List Jvm.Cond} {P : Jvm.Cond → Bool} (h1 : L.all (fun c => isCode c || P c) = true) (h2 : ∀ c ∈ L.filter isCode, P c = true) : L.all P = true := by
  refine List.all_eq_true.mpr fun c hc => ?_
  have h := List.all_eq_true.mp h1 c hc
  rcases Bool.eq_false_or_eq_true (isCode c) with hi | hi
  · exact h2 c (List.mem_filter.mpr ⟨hc, hi⟩)
  · simpa [hi] using h
set_option maxRecDepth 65536 in
theorem w_c0 : (Jvm.Cond.code x code maxLocals ret).before args0 about1 = true := code_word (m := ⟨1, 2⟩) (meth := k1m2) (c := k1c2) (by decide +kernel) rfl rfl rfl (by decide +kernel)
set_option maxRecDepth 65536 in
theorem w_c1 : (Jvm.Cond.code ({ cls := "com/example/torino/torino/IntBlocks", name := "<init>", desc := "()V" } : Jvm.MethodName) prog_11_method_1_code (1 : Nat) (Option.none : Option Jvm.ClassFile.FieldType)).before args0 about1 = true := code_word (m := ⟨2, 0⟩) (meth := k2m0) (c := k2c0) (by decide +kernel) rfl rfl rfl (by decide +kernel)
set_option maxRecDepth 65536 in
theorem w_c2 : (Jvm.Cond.code ({ cls := "java/lang/Object", name := "<init>", desc := "()V" } : Jvm.MethodName) object_method_1_code (1 : Nat) (Option.none : Option Jvm.ClassFile.FieldType)).before args0 about1 = true := code_word (m := ⟨0, 0⟩) (meth := k0m0) (c := k0c0) (by decide +kernel) rfl rfl rfl (by decide +kernel)
set_option maxRecDepth 65536 in
theorem w_c3 : (Jvm.Cond.code ({ cls := "com/example/torino/torino/IntBlocks", name := "makeRoom", desc := "(JLjava/lang/String;)V" } : Jvm.MethodName) prog_11_method_4_code (5 : Nat) (Option.none : Option Jvm.ClassFile.FieldType)).before args0 about1 = true := code_word (m := ⟨2, 3⟩) (meth := k2m3) (c := k2c3) (by decide +kernel) rfl rfl rfl (by decide +kernel)
set_option maxRecDepth 65536 in
theorem w_c4 : (Jvm.Cond.code ({ cls := "com/example/torino/torino/ArrayLengths", name := "checkLength", desc := "(JLjava/lang/String;)V" } : Jvm.MethodName) prog_2_method_2_code (3 : Nat) (Option.none : Option Jvm.ClassFile.FieldType)).before args0 about1 = true := code_word (m := ⟨9, 1⟩) (meth := k9m1) (c := k9c1) (by decide +kernel) rfl rfl rfl (by decide +kernel)
set_option maxRecDepth 65536 in
theorem w_c5 : (Jvm.Cond.code ({ cls := "com/example/torino/torino/IntBlocks", name := "set", desc := "(II)V" } : Jvm.MethodName) prog_11_method_3_code (3 : Nat) (Option.none : Option Jvm.ClassFile.FieldType)).before args0 about1 = true := code_word (m := ⟨2, 2⟩) (meth := k2m2) (c := k2c2) (by decide +kernel) rfl rfl rfl (by decide +kernel)
set_option maxRecDepth 65536 in
theorem w_c6 : (Jvm.Cond.code ({ cls := "com/example/torino/torino/IntBlocks", name := "get", desc := "(I)I" } : Jvm.MethodName) prog_11_method_2_code (2 : Nat) (Option.some Jvm.ClassFile.FieldType.int)).before args0 about1 = true := code_word (m := ⟨2, 1⟩) (meth := k2m1) (c := k2c1) (by decide +kernel) rfl rfl rfl (by decide +kernel)
set_option maxRecDepth 65536 in
theorem w_c7 : (Jvm.Cond.code ({ cls := "com/example/torino/torino/IntBlocksGetPinLaw", name := "expected", desc := "(IIIII)I" } : Jvm.MethodName) method_2_code (5 : Nat) (Option.some Jvm.ClassFile.FieldType.int)).before args0 about1 = true := code_word (m := ⟨1, 1⟩) (meth := k1m1) (c := k1c1) (by decide +kernel) rfl rfl rfl (by decide +kernel)
def codes1 : List Jvm.Cond := [Jvm.Cond.code x code maxLocals ret, Jvm.Cond.code ({ cls := "com/example/torino/torino/IntBlocks", name := "<init>", desc := "()V" } : Jvm.MethodName) prog_11_method_1_code (1 : Nat) (Option.none : Option Jvm.ClassFile.FieldType), Jvm.Cond.code ({ cls := "java/lang/Object", name := "<init>", desc := "()V" } : Jvm.MethodName) object_method_1_code (1 : Nat) (Option.none : Option Jvm.ClassFile.FieldType), Jvm.Cond.code ({ cls := "com/example/torino/torino/IntBlocks", name := "makeRoom", desc := "(JLjava/lang/String;)V" } : Jvm.MethodName) prog_11_method_4_code (5 : Nat) (Option.none : Option Jvm.ClassFile.FieldType), Jvm.Cond.code ({ cls := "com/example/torino/torino/ArrayLengths", name := "checkLength", desc := "(JLjava/lang/String;)V" } : Jvm.MethodName) prog_2_method_2_code (3 : Nat) (Option.none : Option Jvm.ClassFile.FieldType), Jvm.Cond.code ({ cls := "com/example/torino/torino/IntBlocks", name := "set", desc := "(II)V" } : Jvm.MethodName) prog_11_method_3_code (3 : Nat) (Option.none : Option Jvm.ClassFile.FieldType), Jvm.Cond.code ({ cls := "com/example/torino/torino/IntBlocks", name := "get", desc := "(I)I" } : Jvm.MethodName) prog_11_method_2_code (2 : Nat) (Option.some Jvm.ClassFile.FieldType.int), Jvm.Cond.code ({ cls := "com/example/torino/torino/IntBlocksGetPinLaw", name := "expected", desc := "(IIIII)I" } : Jvm.MethodName) method_2_code (5 : Nat) (Option.some Jvm.ClassFile.FieldType.int)]
set_option maxRecDepth 65536 in
theorem codes_eq : words1.filter isCode = codes1 := rfl
theorem w_codes : ∀ c ∈ words1.filter isCode, c.before args0 about1 = true := by
  rw [codes_eq]
  intro c hc
  simp only [codes1, List.mem_cons, List.not_mem_nil, or_false] at hc
  rcases hc with rfl | rfl | rfl | rfl | rfl | rfl | rfl | rfl
  · exact w_c0
  · exact w_c1
  · exact w_c2
  · exact w_c3
  · exact w_c4
  · exact w_c5
  · exact w_c6
  · exact w_c7
set_option maxRecDepth 65536 in
theorem w_t1 : (words1.take 24).all (fun c => isCode c || c.before args0 about1) = true := by decide +kernel
set_option maxRecDepth 65536 in
theorem w_t2 : ((words1.drop 24).take 24).all (fun c => isCode c || c.before args0 about1) = true := by decide +kernel
set_option maxRecDepth 65536 in
theorem w_t3 : ((words1.drop 24).drop 24).all (fun c => isCode c || c.before args0 about1) = true := by decide +kernel
theorem w_tables : (allAtoms (Jvm.Cond.code x code maxLocals ret :: tables_1)).before args0 about1 = true := by
  rw [allAtoms_all]
  show words1.all (fun c => c.before args0 about1) = true
  refine all_split ?_ w_codes
  rw [← List.take_append_drop 24 words1, List.all_append, w_t1, ← List.take_append_drop 24 (words1.drop 24), List.all_append, w_t2, w_t3]
  rfl
set_option maxRecDepth 65536 in
theorem w_case : (Jvm.Cond.and given_1 narrow_1).before args0 about1 = true := by decide +kernel
theorem w_applies : (headSpec (Jvm.Cond.code x code maxLocals ret :: tables_1) room_1).applies x e0.platform about1 = true :=
  (Spec.applies_iff w_frames).mpr ⟨w_running, w_runnable, w_alone, w_named, w_hears, w_ripe, w_room, w_tables⟩
theorem atStart : AtStart classFile x code maxLocals ret World_1 tables_1 room_1 Calls_1 rest_1 Pre_1 launch0 p0 e0 about1 theMethod args0 below0 :=
  ⟨lists_1, trivial, launch0.admits_env _ _ _, launch0.least_env, fairChoices_fair.cas, fairChoices_fair.clock, w_frames, w_args, w_heap, w_applies, trivial, trivial, w_case⟩
end start1
theorem witness_1 : WitnessClaimed_1 := ⟨start1.p0, start1.e0, start1.about1, start1.theMethod, start1.args0, start1.below0, start1.atStart⟩
end Jvm.Pilot.@@N@@
