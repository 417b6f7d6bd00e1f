import JvmDerived
import JvmDerived.Pilot.@@N@@Statement
import JvmDerived.Pilot.@@N@@Code
set_option linter.unusedVariables false
set_option linter.unusedSimpArgs false
@@BLOCK:NumsL.lean.txt@@
namespace Jvm.OwnKit
open Sem ClassFile Op Lib Jvm.Stand Jvm.Free Jvm.LawKit Jvm.RoadKit
def Go (tb : Tables) (e : Env) (below : List Frame) (P : State → Outcome → Prop) (S : State) : Prop := ∃ U o, Steps tb e below S U ∧ U.status = .running ∧ Ended U below o ∧ P U o
theorem Go.s {tb : Tables} {e : Env} {below : List Frame} {P : State → Outcome → Prop} {S S' : State} (k : ∀ {t : State}, Steps tb e below S' t → Steps tb e below S t) (f : Go tb e below P S') : Go tb e below P S := by
  obtain ⟨U, o, h1, h2⟩ := f
  exact ⟨U, o, k h1, h2⟩
theorem Go.cast {tb : Tables} {e : Env} {below : List Frame} {P : State → Outcome → Prop} {T : State} {g g' : JFrame} (q : g = g') (f : Go tb e below P (T.setTop g')) : Go tb e below P (T.setTop g) := q ▸ f
/-- the contract of a body, at one heap and one list of arguments -/
def Con (l : Launch) (Z : State) (y : MethodName) (bytes : ByteArray) (maxL : Nat) (ret : Option FieldType) (ws : List Jvm.Cond) (rm : Room) (as' : Array Value) (h : Heap) (Q : Option Value → Heap → List Loc → Prop) : Prop :=
  MetFree l y (head1 (Cond.code y bytes maxL ret :: ws) rm) (fun a U => a = as' ∧ Z.Warmed39 U.vm ∧ U.heap = h) (fun _ _ _ _ _ => True) (fun _ U o U' => ∃ v L, o = .returned v ∧ Q v U'.heap L ∧ FrameEnd U o U' L rm.cells rm.slots)
theorem Con.intro {l : Launch} {Z : State} {y : MethodName} {bytes : ByteArray} {maxL : Nat} {ret : Option FieldType} {ws : List Jvm.Cond} {rm : Room} {as' : Array Value} {h : Heap} {Q : Option Value → Heap → List Loc → Prop} (hpn : plainFor y = true)
    (body : ∀ (p : Program) (e : Env) (s : State) (m : MethodId) (below : List Frame) (meth : Method) (c : Code) (s₁ : State) (P : State → Outcome → Prop), p.tables.exec = Jvm.exec → c.code = bytes → c.maxLocals = maxL → s.vm.findClass y.cls = some m.cls → meth.name = y.name → meth.sig.returnType = ret → meth.locks = false → Z.Warmed39 s.vm →
      Stand p l e rm s m as' below meth c s₁ [] 0 0 → s₁.heap = h → (∀ U v L, Q v U.heap L → FrameEnd s (.returned v) U L rm.cells rm.slots → P U (.returned v)) → Go p.tables e below P (s₁.setTop (entryFrame m as' maxL))) :
    Con l Z y bytes maxL ret ws rm as' h Q := by
  refine MetFree.of_bodySF hpn hisR ?_
  intro p e s m args below meth c s₁ Bd hml0 hP hK
  obtain ⟨rfl, hZ, hh⟩ := hP
  exact body p e s m below meth c s₁ _ Bd.exec Bd.bytes hml0 (findClass_of_methodNamed Bd.named) (name_of_methodNamed Bd.named Bd.method).1 Bd.returns (BodyLoose.notSynchronized Bd) hZ (Stand.of_body Bd) (by rw [← hh, Bd.state]; rfl) fun U v L q f => ⟨v, L, rfl, q, f⟩
theorem Con.mono {l : Launch} {Z : State} {y : MethodName} {bytes : ByteArray} {maxL : Nat} {ret : Option FieldType} {ws : List Jvm.Cond} {rm : Room} {as' : Array Value} {h : Heap} {Q Q' : Option Value → Heap → List Loc → Prop} (C : Con l Z y bytes maxL ret ws rm as' h Q) (q : ∀ v h L, Q v h L → Q' v h L) : Con l Z y bytes maxL ret ws rm as' h Q' := by
  intro p e ha hc hk s m args below hf happ hP hK
  obtain ⟨n, o, h1, h2, h3, v, L, h4, h5, h6⟩ := C p e ha hc hk s m args below hf happ hP hK
  exact ⟨n, o, h1, h2, h3, v, L, h4, q _ _ _ h5, h6⟩
def ConH (l : Launch) (Z : State) (y : MethodName) (bytes : ByteArray) (maxL : Nat) (ret : Option FieldType) (hs : List (Nat × Nat × Nat × Nat)) (ws : List Jvm.Cond) (rm : Room) (as' : Array Value) (h : Heap) (Q : Option Value → Heap → List Loc → Prop) : Prop :=
  MetFree l y (head1 (Cond.codeWith y bytes maxL ret hs :: ws) rm) (fun a U => a = as' ∧ Z.Warmed39 U.vm ∧ U.heap = h) (fun _ _ _ _ _ => True) (fun _ U o U' => ∃ v L, o = .returned v ∧ Q v U'.heap L ∧ FrameEnd U o U' L rm.cells rm.slots)
theorem ConH.intro {l : Launch} {Z : State} {y : MethodName} {bytes : ByteArray} {maxL : Nat} {ret : Option FieldType} {hs : List (Nat × Nat × Nat × Nat)} {ws : List Jvm.Cond} {rm : Room} {as' : Array Value} {h : Heap} {Q : Option Value → Heap → List Loc → Prop} (hpn : plainFor y = true)
    (body : ∀ (p : Program) (e : Env) (s : State) (m : MethodId) (below : List Frame) (meth : Method) (c : Code) (s₁ : State) (P : State → Outcome → Prop), p.tables.exec = Jvm.exec → c.code = bytes → c.maxLocals = maxL → s.vm.findClass y.cls = some m.cls → meth.name = y.name → meth.sig.returnType = ret → meth.locks = false → Z.Warmed39 s.vm →
      Stand p l e rm s m as' below meth c s₁ [] 0 0 → s₁.heap = h → (∀ U v L, Q v U.heap L → FrameEnd s (.returned v) U L rm.cells rm.slots → P U (.returned v)) → Go p.tables e below P (s₁.setTop (entryFrame m as' maxL))) :
    ConH l Z y bytes maxL ret hs ws rm as' h Q := by
  refine MetFree.of_bodySF hpn hisWith ?_
  intro p e s m args below meth c s₁ Bd hml0 hP hK
  obtain ⟨rfl, hZ, hh⟩ := hP
  exact body p e s m below meth c s₁ _ Bd.exec Bd.bytes hml0 (findClass_of_methodNamed Bd.named) (name_of_methodNamed Bd.named Bd.method).1 Bd.returns (BodyLoose.notSynchronized Bd) hZ (Stand.of_body Bd) (by rw [← hh, Bd.state]; rfl) fun U v L q f => ⟨v, L, rfl, q, f⟩
section Walk
variable {p : Program} {l : Launch} {e : Env} {R : Room} {s : State} {m : MethodId} {args : Array Value} {below : List Frame} {meth : Method} {c : Code} {T : State} {locs : List Loc} {cells slots : Nat} {P : State → Outcome → Prop} {Z : State} {a0 : Array Value} {h : Heap}
theorem Go.ret (X : Stand p l e R s m args below meth c T locs cells slots) (hx : p.tables.exec = Jvm.exec) (hlk : meth.locks = false) {pc : Nat} {Ls : Array Slot} {w : Value} {t : FieldType} {i : Instr} {rest : List Value} (hret : meth.sig.returnType = some t) (hn : narrow t w = w)
    (hi : (i = .ireturn ∧ (t = .int ∨ t = .boolean ∨ t = .byte ∨ t = .char ∨ t = .short) ∧ ∃ z, w = .int z) ∨ (i = .lreturn ∧ t = .long ∧ ∃ z, w = .long z) ∨ (i = .dreturn ∧ t = .double ∧ ∃ z, w = .double z) ∨ (i = .freturn ∧ t = .float ∧ ∃ z, w = .float z) ∨ (i = .areturn ∧ t.isReference = true ∧ w.isRef = true))
    (hd : decode c.code pc = .ok (i, 1)) (hP : ∀ U : State, U.heap = T.heap → FrameEnd s (.returned (some w)) U locs cells slots → P U (.returned (some w))) : Go p.tables e below P (T.setTop (mkF m pc Ls (w :: rest))) := by
  obtain ⟨fs, hr, hrun, hended, hW, hsame⟩ := X.leave (v := some w) (fun h => by rw [hret] at h; cases h) hlk
  exact ⟨_, _, retOut X hx hret hn hi hd hr, hrun, hended, hP _ rfl ⟨⟨_, rfl⟩, hW, hsame⟩⟩
theorem Go.retI (X : Stand p l e R s m args below meth c T locs cells slots) (hx : p.tables.exec = Jvm.exec) (hlk : meth.locks = false) {pc : Nat} {Ls : Array Slot} {z : Int32} {rest : List Value} (hret : meth.sig.returnType = some .int)
    (hd : decode c.code pc = .ok (.ireturn, 1)) (hP : ∀ U : State, U.heap = T.heap → FrameEnd s (.returned (some (.int z))) U locs cells slots → P U (.returned (some (.int z)))) : Go p.tables e below P (T.setTop (mkF m pc Ls (.int z :: rest))) :=
  Go.ret X hx hlk hret rfl (Or.inl ⟨rfl, Or.inl rfl, _, rfl⟩) hd hP
theorem Go.retZ (X : Stand p l e R s m args below meth c T locs cells slots) (hx : p.tables.exec = Jvm.exec) (hlk : meth.locks = false) {pc : Nat} {Ls : Array Slot} {z : Int32} {rest : List Value} (hret : meth.sig.returnType = some .boolean) (hz : z = 0 ∨ z = 1)
    (hd : decode c.code pc = .ok (.ireturn, 1)) (hP : ∀ U : State, U.heap = T.heap → FrameEnd s (.returned (some (.int z))) U locs cells slots → P U (.returned (some (.int z)))) : Go p.tables e below P (T.setTop (mkF m pc Ls (.int z :: rest))) :=
  Go.ret X hx hlk hret (by rcases hz with rfl | rfl <;> rfl) (Or.inl ⟨rfl, Or.inr (Or.inl rfl), _, rfl⟩) hd hP
theorem Go.retJ (X : Stand p l e R s m args below meth c T locs cells slots) (hx : p.tables.exec = Jvm.exec) (hlk : meth.locks = false) {pc : Nat} {Ls : Array Slot} {z : Int64} {rest : List Value} (hret : meth.sig.returnType = some .long)
    (hd : decode c.code pc = .ok (.lreturn, 1)) (hP : ∀ U : State, U.heap = T.heap → FrameEnd s (.returned (some (.long z))) U locs cells slots → P U (.returned (some (.long z)))) : Go p.tables e below P (T.setTop (mkF m pc Ls (.long z :: rest))) :=
  Go.ret X hx hlk hret rfl (Or.inr (Or.inl ⟨rfl, rfl, _, rfl⟩)) hd hP
theorem Go.retR (X : Stand p l e R s m args below meth c T locs cells slots) (hx : p.tables.exec = Jvm.exec) (hlk : meth.locks = false) {pc : Nat} {Ls : Array Slot} {w : Value} {t : FieldType} {rest : List Value} (hret : meth.sig.returnType = some t) (ht : t.isReference = true) (hw : w.isRef = true)
    (hd : decode c.code pc = .ok (.areturn, 1)) (hP : ∀ U : State, U.heap = T.heap → FrameEnd s (.returned (some w)) U locs cells slots → P U (.returned (some w))) : Go p.tables e below P (T.setTop (mkF m pc Ls (w :: rest))) :=
  Go.ret X hx hlk hret (by rcases ref_cases hw with rfl | ⟨z, rfl⟩ <;> cases t <;> first | rfl | (cases ht)) (Or.inr (Or.inr (Or.inr (Or.inr ⟨rfl, ht, hw⟩)))) hd hP
theorem Go.retV (X : Stand p l e R s m args below meth c T locs cells slots) (hx : p.tables.exec = Jvm.exec) (hlk : meth.locks = false) {pc : Nat} {Ls : Array Slot} (hret : meth.sig.returnType = none)
    (hd : decode c.code pc = .ok (.return_, 1)) (hP : ∀ U : State, U.heap = T.heap → FrameEnd s (.returned none) U locs cells slots → P U (.returned none)) : Go p.tables e below P (T.setTop (mkF m pc Ls [])) := by
  obtain ⟨fs, hr, hrun, hended, hW, hsame⟩ := X.leave (v := none) (fun _ => rfl) hlk
  exact ⟨_, _, X.returnOut hx hret hd hr, hrun, hended, hP _ rfl ⟨⟨_, rfl⟩, hW, hsame⟩⟩
theorem Con.static {y : MethodName} {bytes : ByteArray} {maxL : Nat} {ret : Option FieldType} {rm : Room} {as' : Array Value} {Q : Option Value → Heap → List Loc → Prop} (C : Con l Z y bytes maxL ret [] rm as' h Q)
    (X : Stand p l e R s m args below meth c T locs cells slots) (hx : p.tables.exec = Jvm.exec) (hZ : Z.Warmed39 s.vm) {own : String} {index W : Nat} (hown : s.vm.findClass own = some m.cls)
    (wl : (Cond.methodLink own index y).before a0 Z = true) (wst : (Cond.static y).before a0 Z = true) (wz : (Cond.initialized y.cls).before a0 Z = true) (wc : (Cond.code y bytes maxL ret).before a0 Z = true)
    (hy : y.cls ≠ "java/lang/invoke/MethodHandle" ∧ y.cls ≠ "java/lang/invoke/VarHandle") (hf : rm.frames + 1 ≤ R.frames) (hl : W + (maxL + 11) + rm.locals ≤ R.locals) (hce : cells + rm.cells ≤ R.cells) (hsl : slots + rm.slots ≤ R.slots) (eT : T.heap = h)
    {g : JFrame} (hg : g.method = m) (hsize : g.locals.size = c.maxLocals) {argsL rest : List Value} (has : argsL.toArray = as') (hlen : ∀ sig, parseMethodDescriptor y.desc = some sig → argsL.length = sig.parameters.length)
    (hstack : g.stack = argsL.reverse ++ rest) (hW : 2 * g.monitorRoom + (rest.map fun v => v.category).sum ≤ W) (hdg : decode c.code g.pc = .ok (.invokestatic index, 3)) :
    ∃ (v : Option Value) (T' : State) (L : List Loc), Stand p l e R s m args below meth c T' (locs ++ L) (cells + rm.cells) (slots + rm.slots) ∧ Q v T'.heap L ∧
      ∀ {t : State}, Steps p.tables e below (T'.setTop { g with pc := g.pc + 3, stack := v.toList ++ rest }) t → Steps p.tables e below (T.setTop g) t := by
  obtain ⟨v, vm₁, ⟨T', L', k', n'⟩, -, X', ⟨L, hQ, e1, e2, e3⟩, st⟩ := Jvm.LawKit.callS X hx hown (mvT hZ wl) (mvT hZ wst) (mvT hZ wz) (mvT hZ wc) hy (backOf (W := W) C hZ wc wz hf hl) hg hsize hlen hstack hW hdg (fun _ _ => ⟨has, eT, hce, hsl⟩)
  dsimp only [Pt.U, Pt.locs, Pt.cells, Pt.slots] at X' e1 e2 e3 st hQ
  subst e1 e2 e3
  exact ⟨v, T', L, X', hQ, fun {t} k => st t k⟩
theorem Con.special {y : MethodName} {bytes : ByteArray} {maxL : Nat} {rm : Room} {as' : Array Value} {Q : Option Value → Heap → List Loc → Prop} (C : Con l Z y bytes maxL none [] rm as' h Q) (hy1 : y.name = "<init>")
    (X : Stand p l e R s m args below meth c T locs cells slots) (hx : p.tables.exec = Jvm.exec) (hZ : Z.Warmed39 s.vm) {own : String} {index W : Nat} (hown : s.vm.findClass own = some m.cls)
    (wl : (Cond.methodLink own index y).before a0 Z = true) (wi : (Cond.instanceMethod y).before a0 Z = true) (wz : (Cond.initialized y.cls).before a0 Z = true) (wc : (Cond.code y bytes maxL none).before a0 Z = true)
    (hy : y.cls ≠ "java/lang/invoke/MethodHandle" ∧ y.cls ≠ "java/lang/invoke/VarHandle") (hf : rm.frames + 1 ≤ R.frames) (hl : W + (maxL + 11) + rm.locals ≤ R.locals) (hce : cells + rm.cells ≤ R.cells) (hsl : slots + rm.slots ≤ R.slots) (eT : T.heap = h)
    {g : JFrame} (hg : g.method = m) (hsize : g.locals.size = c.maxLocals) {a : Addr} {argsL rest : List Value} (has : (Value.ref a :: argsL).toArray = as') (hlen : ∀ sig, parseMethodDescriptor y.desc = some sig → argsL.length = sig.parameters.length)
    (hstack : g.stack = argsL.reverse ++ .ref a :: rest) (hW : 2 * g.monitorRoom + (rest.map fun v => v.category).sum ≤ W) (hdg : decode c.code g.pc = .ok (.invokespecial index, 3)) :
    ∃ (v : Option Value) (T' : State) (L : List Loc), Stand p l e R s m args below meth c T' (locs ++ L) (cells + rm.cells) (slots + rm.slots) ∧ Q v T'.heap L ∧
      ∀ {t : State}, Steps p.tables e below (T'.setTop { g with pc := g.pc + 3, stack := v.toList ++ rest }) t → Steps p.tables e below (T.setTop g) t := by
  obtain ⟨v, vm₁, ⟨T', L', k', n'⟩, -, X', ⟨L, hQ, e1, e2, e3⟩, st⟩ := X.specialBack hx hy1 hown (mvT hZ wl) (mvT hZ wi) (mvT hZ wc) hy (backOf (W := W) C hZ wc wz hf hl) hg hsize (Steps.refl _) hlen hstack hW hdg (fun _ _ => ⟨has, eT, hce, hsl⟩)
  dsimp only [Pt.U, Pt.locs, Pt.cells, Pt.slots] at X' e1 e2 e3 st hQ
  subst e1 e2 e3
  exact ⟨v, T', L, X', hQ, fun {t} k => st.trans k⟩
theorem ConH.special {y : MethodName} {bytes : ByteArray} {maxL : Nat} {rm : Room} {as' : Array Value} {Q : Option Value → Heap → List Loc → Prop} {hs : List (Nat × Nat × Nat × Nat)} (C : ConH l Z y bytes maxL none hs [] rm as' h Q) (hy1 : y.name = "<init>")
    (X : Stand p l e R s m args below meth c T locs cells slots) (hx : p.tables.exec = Jvm.exec) (hZ : Z.Warmed39 s.vm) {own : String} {index W : Nat} (hown : s.vm.findClass own = some m.cls)
    (wl : (Cond.methodLink own index y).before a0 Z = true) (wi : (Cond.instanceMethod y).before a0 Z = true) (wz : (Cond.initialized y.cls).before a0 Z = true) (wc : (Cond.codeWith y bytes maxL none hs).before a0 Z = true)
    (hy : y.cls ≠ "java/lang/invoke/MethodHandle" ∧ y.cls ≠ "java/lang/invoke/VarHandle") (hf : rm.frames + 1 ≤ R.frames) (hl : W + (maxL + 11) + rm.locals ≤ R.locals) (hce : cells + rm.cells ≤ R.cells) (hsl : slots + rm.slots ≤ R.slots) (eT : T.heap = h)
    {g : JFrame} (hg : g.method = m) (hsize : g.locals.size = c.maxLocals) {a : Addr} {argsL rest : List Value} (has : (Value.ref a :: argsL).toArray = as') (hlen : ∀ sig, parseMethodDescriptor y.desc = some sig → argsL.length = sig.parameters.length)
    (hstack : g.stack = argsL.reverse ++ .ref a :: rest) (hW : 2 * g.monitorRoom + (rest.map fun v => v.category).sum ≤ W) (hdg : decode c.code g.pc = .ok (.invokespecial index, 3)) :
    ∃ (v : Option Value) (T' : State) (L : List Loc), Stand p l e R s m args below meth c T' (locs ++ L) (cells + rm.cells) (slots + rm.slots) ∧ Q v T'.heap L ∧
      ∀ {t : State}, Steps p.tables e below (T'.setTop { g with pc := g.pc + 3, stack := v.toList ++ rest }) t → Steps p.tables e below (T.setTop g) t := by
  obtain ⟨v, vm₁, ⟨T', L', k', n'⟩, -, X', ⟨L, hQ, e1, e2, e3⟩, st⟩ := X.specialBackH hx hy1 hown (mvT hZ wl) (mvT hZ wi) (mvT hZ wc) hy (backOfWith (W := W) C hZ wc wz hf hl) hg hsize (Steps.refl _) hlen hstack hW hdg (fun _ _ => ⟨has, eT, hce, hsl⟩)
  dsimp only [Pt.U, Pt.locs, Pt.cells, Pt.slots] at X' e1 e2 e3 st hQ
  subst e1 e2 e3
  exact ⟨v, T', L, X', hQ, fun {t} k => st.trans k⟩
theorem Con.virtual {y : MethodName} {bytes : ByteArray} {maxL : Nat} {ret : Option FieldType} {rm : Room} {as' : Array Value} {Q : Option Value → Heap → List Loc → Prop} (K : Con l Z y bytes maxL ret [] rm as' h Q)
    (X : Stand p l e R s m args below meth c T locs cells slots) (hx : p.tables.exec = Jvm.exec) (hZ : Z.Warmed39 s.vm) {own C : String} {index W : Nat} (hown : s.vm.findClass own = some m.cls)
    (wl : (Cond.methodLink own index y).before a0 Z = true) (wd : (Cond.declares y).before a0 Z = true) (wsel : (Cond.selects C y y).before a0 Z = true) (wi : (Cond.instanceMethod y).before a0 Z = true) (wz : (Cond.initialized y.cls).before a0 Z = true) (wc : (Cond.code y bytes maxL ret).before a0 Z = true)
    (hy : y.cls ≠ "java/lang/invoke/MethodHandle" ∧ y.cls ≠ "java/lang/invoke/VarHandle") (hf : rm.frames + 1 ≤ R.frames) (hl : W + (maxL + 11) + rm.locals ≤ R.locals) (hce : cells + rm.cells ≤ R.cells) (hsl : slots + rm.slots ≤ R.slots) (eT : T.heap = h)
    {g : JFrame} (hg : g.method = m) (hsize : g.locals.size = c.maxLocals) {a : Addr} (E : Exa Z h a C) {argsL rest : List Value} (has : (Value.ref a :: argsL).toArray = as') (hlen : ∀ sig, parseMethodDescriptor y.desc = some sig → argsL.length = sig.parameters.length)
    (hstack : g.stack = argsL.reverse ++ .ref a :: rest) (hW : 2 * g.monitorRoom + (rest.map fun v => v.category).sum ≤ W) (hdg : decode c.code g.pc = .ok (.invokevirtual index, 3)) :
    ∃ (v : Option Value) (T' : State) (L : List Loc), Stand p l e R s m args below meth c T' (locs ++ L) (cells + rm.cells) (slots + rm.slots) ∧ Q v T'.heap L ∧
      ∀ {t : State}, Steps p.tables e below (T'.setTop { g with pc := g.pc + 3, stack := v.toList ++ rest }) t → Steps p.tables e below (T.setTop g) t := by
  obtain ⟨cq, kq, qa, qb, qc⟩ := isOf hZ eT E
  obtain ⟨v, vm₁, ⟨T', L', k', n'⟩, -, X', ⟨L, hQ, e1, e2, e3⟩, st⟩ := X.virtualBack hx hown (mvT hZ wl) (mvT hZ wd) (notFace_of_selects (args := #[]) (mvT hZ wsel)) (mvT hZ wsel) (mvT hZ wi) hy (backOf (W := W) K hZ wc wz hf hl) qa qc hg hsize (Steps.refl _) hlen hstack hW hdg (fun _ _ => ⟨has, eT, hce, hsl⟩)
  dsimp only [Pt.U, Pt.locs, Pt.cells, Pt.slots] at X' e1 e2 e3 st hQ
  subst e1 e2 e3
  exact ⟨v, T', L, X', hQ, fun {t} k => st.trans k⟩
theorem Con.priv {y : MethodName} {bytes : ByteArray} {maxL : Nat} {ret : Option FieldType} {rm : Room} {as' : Array Value} {Q : Option Value → Heap → List Loc → Prop} (K : Con l Z y bytes maxL ret [] rm as' h Q)
    (X : Stand p l e R s m args below meth c T locs cells slots) (hx : p.tables.exec = Jvm.exec) (hZ : Z.Warmed39 s.vm) {own C : String} {index W kk : Nat} (hown : s.vm.findClass own = some m.cls)
    (wl : (Cond.methodLink own index y).before a0 Z = true) (wn : (Cond.instantiable y.cls kk).before a0 Z = true) (wp : (Cond.privateMethod y).before a0 Z = true) (wi : (Cond.instanceMethod y).before a0 Z = true) (wz : (Cond.initialized y.cls).before a0 Z = true) (wc : (Cond.code y bytes maxL ret).before a0 Z = true)
    (hy : y.cls ≠ "java/lang/invoke/MethodHandle" ∧ y.cls ≠ "java/lang/invoke/VarHandle") (hf : rm.frames + 1 ≤ R.frames) (hl : W + (maxL + 11) + rm.locals ≤ R.locals) (hce : cells + rm.cells ≤ R.cells) (hsl : slots + rm.slots ≤ R.slots) (eT : T.heap = h)
    {g : JFrame} (hg : g.method = m) (hsize : g.locals.size = c.maxLocals) {a : Addr} (E : Exa Z h a C) {argsL rest : List Value} (has : (Value.ref a :: argsL).toArray = as') (hlen : ∀ sig, parseMethodDescriptor y.desc = some sig → argsL.length = sig.parameters.length)
    (hstack : g.stack = argsL.reverse ++ .ref a :: rest) (hW : 2 * g.monitorRoom + (rest.map fun v => v.category).sum ≤ W) (hdg : decode c.code g.pc = .ok (.invokevirtual index, 3)) :
    ∃ (v : Option Value) (T' : State) (L : List Loc), Stand p l e R s m args below meth c T' (locs ++ L) (cells + rm.cells) (slots + rm.slots) ∧ Q v T'.heap L ∧
      ∀ {t : State}, Steps p.tables e below (T'.setTop { g with pc := g.pc + 3, stack := v.toList ++ rest }) t → Steps p.tables e below (T.setTop g) t := by
  have hpa : s.PrivateAt y := Cond.privateMethod_at (mvP hZ wp (args := args))
  have win : (Cond.instanceMethod y).before args s = true := mvT hZ wi
  have wnn : (Cond.instantiable y.cls kk).before args s = true := mvT hZ wn
  obtain ⟨ci, ki, i1, i2, i3, i4, -⟩ := Cond.instantiable_spec wnn
  have hni : ki.isInterface = false := (Bool.or_eq_false_iff.mp i4).1
  obtain ⟨cl, hcl, hob⟩ := E.cell
  obtain ⟨v, vm₁, ⟨T', L', k', n'⟩, -, X', ⟨L, hQ, e1, e2, e3⟩, st⟩ := X.privateBack hx hown (mvT hZ wl) win (selects_self_of_private i1 i2 hni hpa win hy) hpa (mvT hZ wc) hy (backOf (W := W) K hZ wc wz hf hl) hg hsize (Steps.refl _) (by rw [eT]; exact hcl) hob hlen hstack hW hdg (fun _ _ => ⟨has, eT, hce, hsl⟩)
  dsimp only [Pt.U, Pt.locs, Pt.cells, Pt.slots] at X' e1 e2 e3 st hQ
  subst e1 e2 e3
  exact ⟨v, T', L, X', hQ, fun {t} k => st.trans k⟩
theorem Con.virtualUp {x z : MethodName} {bytes : ByteArray} {maxL : Nat} {ret : Option FieldType} {rm : Room} {as' : Array Value} {Q : Option Value → Heap → List Loc → Prop} (K : Con l Z z bytes maxL ret [] rm as' h Q)
    (X : Stand p l e R s m args below meth c T locs cells slots) (hx : p.tables.exec = Jvm.exec) (hZ : Z.Warmed39 s.vm) {own C owner : String} {index W : Nat} (hown : s.vm.findClass own = some m.cls)
    (wl : (Cond.methodLink own index x).before a0 Z = true) (wsm : (Cond.sameMethod x.cls owner x.name x.desc).before a0 Z = true) (wd : (Cond.declares ⟨owner, x.name, x.desc⟩).before a0 Z = true) (wsel : (Cond.selects C x z).before a0 Z = true) (wi : (Cond.instanceMethod z).before a0 Z = true) (wz : (Cond.initialized z.cls).before a0 Z = true) (wc : (Cond.code z bytes maxL ret).before a0 Z = true)
    (ho : owner ≠ "java/lang/invoke/MethodHandle" ∧ owner ≠ "java/lang/invoke/VarHandle") (hf : rm.frames + 1 ≤ R.frames) (hl : W + (maxL + 11) + rm.locals ≤ R.locals) (hce : cells + rm.cells ≤ R.cells) (hsl : slots + rm.slots ≤ R.slots) (eT : T.heap = h)
    {g : JFrame} (hg : g.method = m) (hsize : g.locals.size = c.maxLocals) {a : Addr} (E : Exa Z h a C) {argsL rest : List Value} (has : (Value.ref a :: argsL).toArray = as') (hlen : ∀ sig, parseMethodDescriptor x.desc = some sig → argsL.length = sig.parameters.length)
    (hstack : g.stack = argsL.reverse ++ .ref a :: rest) (hW : 2 * g.monitorRoom + (rest.map fun v => v.category).sum ≤ W) (hdg : decode c.code g.pc = .ok (.invokevirtual index, 3)) :
    ∃ (v : Option Value) (T' : State) (L : List Loc), Stand p l e R s m args below meth c T' (locs ++ L) (cells + rm.cells) (slots + rm.slots) ∧ Q v T'.heap L ∧
      ∀ {t : State}, Steps p.tables e below (T'.setTop { g with pc := g.pc + 3, stack := v.toList ++ rest }) t → Steps p.tables e below (T.setTop g) t := by
  obtain ⟨cq, kq, qa, qb, qc⟩ := isOf hZ eT E
  obtain ⟨v, vm₁, ⟨T', L', k', n'⟩, -, X', ⟨L, hQ, e1, e2, e3⟩, st⟩ := X.virtualBackUp hx hown (mvT hZ wl) (mvT hZ wsm) (mvT hZ wd) ho (mvT hZ wsel) (mvT hZ wi) (backOf (W := W) K hZ wc wz hf hl) qa qc hg hsize (Steps.refl _) hlen hstack hW hdg (fun _ _ => ⟨has, eT, hce, hsl⟩)
  dsimp only [Pt.U, Pt.locs, Pt.cells, Pt.slots] at X' e1 e2 e3 st hQ
  subst e1 e2 e3
  exact ⟨v, T', L, X', hQ, fun {t} k => st.trans k⟩
/-- the cell of an object is one that the model knows -/
def Kn (h : Heap) (a : Addr) : Prop := ∃ cell : Cell, h[a]? = some cell ∧ cell.vm ≠ .unknown
theorem Kn.of_new {h' : Heap} {a : Addr} (u : ∃ cell : Cell, h'[a]? = some cell ∧ cell.vm = .none ∧ cell.monitor = {}) : Kn h' a := by obtain ⟨c, h1, h2, -⟩ := u; exact ⟨c, h1, by rw [h2]; simp⟩
theorem Kn.ext {h h' : Heap} {a : Addr} (F : Kn h a) (E : Ext h h') : Kn h' a := by obtain ⟨c, h1, h2⟩ := F; exact ⟨c, E.2 _ _ h1, h2⟩
theorem Kn.keep {h h' : Heap} {a : Addr} {ws : List Addr} (F : Kn h a) (K : Keep h h' ws) : Kn h' a := by
  obtain ⟨c, h1, h2⟩ := F; obtain ⟨c', q, -, q2, -⟩ := K.2.2 a c h1; exact ⟨c', q, by rw [q2]; exact h2⟩
theorem Kn.wr {h h' : Heap} {a b : Addr} {sl : Nat} {v : Value} (F : Kn h a) (W : Wr h h' b sl v) : Kn h' a := F.keep (Keep.of_wr W)
theorem Kn.fld {h : Heap} {a : Addr} {O n d : String} {v : Value} {Z : State} (F : Fld Z h a O n d v) : Kn h a := by obtain ⟨c, _, _, _, _, h1, -, -, h4, -⟩ := F; exact ⟨c, h1, h4⟩
theorem lremM {g : JFrame} {target : State} (X : Stand p l e R s m args below meth c T locs cells slots) (hx : p.tables.exec = Jvm.exec) (hg : g.method = m) {x y : Int64} {rest : List Value} (hd : decode c.code g.pc = .ok (.lrem, 1)) (hs : g.stack = .long y :: .long x :: rest) (hy : y ≠ 0)
    (hr : Steps p.tables e below (T.setTop { g with pc := g.pc + 1, stack := .long (x % y) :: rest }) target) : Steps p.tables e below (T.setTop g) target := by
  exact XT.lrem X.here hx hg hd hs hy (by rw [lrem_mod]; exact hr)
theorem Sta.own_keep {Z : State} {h h' : Heap} {C n d : String} {v : Value} {ws : List Addr} (F : Sta Z h C n d v) (K : Keep h h' ws) (q : ∀ a ∈ ws, ∃ C', Exa Z h a C') : Sta Z h' C n d v := by
  obtain ⟨cf, i, k, f, st, cell, h1, h2, h3, h4, h5, h6, h7⟩ := F
  refine ⟨cf, i, k, f, st, cell, h1, h2, h3, h4, K.2.1 st cell h5 fun hm => ?_, h6, h7⟩
  obtain ⟨C', c2, _, g1, -, -, g4, -⟩ := q st hm
  cases h5.symm.trans g1
  rw [h6] at g4; cases g4
theorem own_nar {t : FieldType} {v : Value} (h : v.isRef = true) (ht : t.isReference = true) : narrow t v = v := by
  rcases ref_cases h with rfl | ⟨z, rfl⟩ <;> cases t <;> first | rfl | (cases ht)
theorem own_fit {t : FieldType} {v : Value} (h : v.isRef = true) (ht : t.isReference = true) : fits t v = true := by
  rcases ref_cases h with rfl | ⟨z, rfl⟩ <;> cases t <;> first | rfl | (cases ht)
theorem own_eq_int {t : Term} {k : Int32} {args : Array Value} {first s : State} {o : Option Outcome} {idx : List Nat} (h : (Cond.eq t (Term.int k)).value args first o s idx = some true) : t.eval args first o idx s = some (.int k) := by
  simp only [Cond.value, Term.eval] at h
  cases ht : t.eval args first o idx s with
  | none => simp [ht] at h
  | some x => cases x <;> simp [ht] at h ⊢; exact h
theorem pop2L {g : JFrame} {target : State} (X : Stand p l e R s m args below meth c T locs cells slots) (hx : p.tables.exec = Jvm.exec) (hg : g.method = m) {x : Int64} {rest : List Value} (hd : decode c.code g.pc = .ok (.pop2, 1)) (hs : g.stack = .long x :: rest)
    (hr : Steps p.tables e below (T.setTop { g with pc := g.pc + 1, stack := rest }) target) : Steps p.tables e below (T.setTop g) target := by
  subst hg
  jvm_step X.here [X.here.top, hx, hd, Op.pop2.wp_sem, hs, Value.category]
  exact hr
theorem own_tdiv (D k : Int) : (0 ≤ D ∧ D.tdiv k = D / k) ∨ (D < 0 ∧ D.tdiv k = -((-D) / k)) := by
  rcases Int.lt_or_le D 0 with h | h
  · refine Or.inr ⟨h, ?_⟩
    have e : D.tdiv k = -((-D).tdiv k) := by rw [Int.neg_tdiv]; omega
    rw [e, Int.tdiv_eq_ediv_of_nonneg (by omega)]
  · exact Or.inl ⟨h, Int.tdiv_eq_ediv_of_nonneg h⟩
theorem own_tmod (D k : Int) : (0 ≤ D ∧ D.tmod k = D % k) ∨ (D < 0 ∧ D.tmod k = -((-D) % k)) := by
  rcases Int.lt_or_le D 0 with h | h
  · refine Or.inr ⟨h, ?_⟩
    have e : D.tmod k = -((-D).tmod k) := by rw [Int.neg_tmod]; omega
    rw [e, Int.tmod_eq_emod_of_nonneg (by omega)]
  · exact Or.inl ⟨h, Int.tmod_eq_emod_of_nonneg h⟩
end Walk
end Jvm.OwnKit
namespace Jvm.OwnKit
open Sem ClassFile Op Lib Jvm.Stand Jvm.Free Jvm.LawKit Jvm.RoadKit
/-- as Con, for a body that may load a String constant -/
def ConW (l : Launch) (Z : State) (y : MethodName) (bytes : ByteArray) (maxL : Nat) (ret : Option FieldType) (ws : List Jvm.Cond) (rm : Room) (as' : Array Value) (h : Heap) (Q : Option Value → Heap → List Loc → Prop) : Prop :=
  MetFree l y (head1 (Cond.code y bytes maxL ret :: ws) rm) (fun a U => a = as' ∧ Z.Warmed39 U.vm ∧ U.heap = h) (fun _ _ _ _ _ => True) (fun _ U o U' => ∃ v L, o = .returned v ∧ Q v U'.heap L ∧ ReturnedEndW U o U' L rm.cells rm.slots)
theorem ConW.intro {l : Launch} {Z : State} {y : MethodName} {bytes : ByteArray} {maxL : Nat} {ret : Option FieldType} {ws : List Jvm.Cond} {rm : Room} {as' : Array Value} {h : Heap} {Q : Option Value → Heap → List Loc → Prop} (hpn : plainFor y = true)
    (body : ∀ (p : Program) (e : Env) (s : State) (m : MethodId) (below : List Frame) (meth : Method) (c : Code) (s₁ : State) (P : State → Outcome → Prop), p.tables.exec = Jvm.exec → c.code = bytes → c.maxLocals = maxL → (s.setVm s.vm).vm.findClass y.cls = some m.cls → meth.name = y.name → meth.sig.returnType = ret → meth.locks = false → Z.Warmed39 (s.setVm s.vm).vm →
      Stand p l e rm (s.setVm s.vm) m as' below meth c s₁ [] 0 0 → s₁.heap = h → s.Since s.vm 0 → (∀ U v L, Q v U.heap L → ReturnedEndW s (.returned v) U L rm.cells rm.slots → P U (.returned v)) → Go p.tables e below P (s₁.setTop (entryFrame m as' maxL))) :
    ConW l Z y bytes maxL ret ws rm as' h Q := by
  refine MetFree.of_bodySF hpn hisR ?_
  intro p e s m args below meth c s₁ Bd hml0 hP hK
  obtain ⟨rfl, hZ, hh⟩ := hP
  exact body p e s m below meth c s₁ _ Bd.exec Bd.bytes hml0 (findClass_of_methodNamed Bd.named) (name_of_methodNamed Bd.named Bd.method).1 Bd.returns (BodyLoose.notSynchronized Bd) hZ (by rw [State.setVm_self]; exact Stand.of_body Bd) (by rw [← hh, Bd.state]; rfl) ((State.WarmedH.refl s).since 0) fun U v L q f => ⟨v, L, rfl, q, f⟩
section WalkW
variable {p : Program} {l : Launch} {e : Env} {R : Room} {s : State} {vm0 : Vm} {m : MethodId} {args : Array Value} {below : List Frame} {meth : Method} {c : Code} {T : State} {locs : List Loc} {cells slots : Nat} {P : State → Outcome → Prop} {Z : State} {a0 : Array Value} {h : Heap}
theorem Go.retW (X : Stand p l e R (s.setVm vm0) m args below meth c T locs cells slots) (hx : p.tables.exec = Jvm.exec) (hlk : meth.locks = false) {k0 : Nat} (hS : s.Since vm0 k0) (hk : k0 ≤ T.heap.size) {pc : Nat} {Ls : Array Slot} {w : Value} {t : FieldType} {i : Instr} {rest : List Value} (hret : meth.sig.returnType = some t) (hn : narrow t w = w)
    (hi : (i = .ireturn ∧ (t = .int ∨ t = .boolean ∨ t = .byte ∨ t = .char ∨ t = .short) ∧ ∃ z, w = .int z) ∨ (i = .lreturn ∧ t = .long ∧ ∃ z, w = .long z) ∨ (i = .dreturn ∧ t = .double ∧ ∃ z, w = .double z) ∨ (i = .freturn ∧ t = .float ∧ ∃ z, w = .float z) ∨ (i = .areturn ∧ t.isReference = true ∧ w.isRef = true))
    (hd : decode c.code pc = .ok (i, 1)) (hP : ∀ U : State, U.heap = T.heap → ReturnedEndW s (.returned (some w)) U locs cells slots → P U (.returned (some w))) : Go p.tables e below P (T.setTop (mkF m pc Ls (w :: rest))) := by
  obtain ⟨fs, hr, hrun, hended, hE⟩ := X.leaveW hS hk (v := some w) (fun h => by rw [hret] at h; cases h) hlk
  exact ⟨_, _, retOut X hx hret hn hi hd hr, hrun, hended, hP _ rfl hE⟩
theorem Go.retZW (X : Stand p l e R (s.setVm vm0) m args below meth c T locs cells slots) (hx : p.tables.exec = Jvm.exec) (hlk : meth.locks = false) {k0 : Nat} (hS : s.Since vm0 k0) (hk : k0 ≤ T.heap.size) {pc : Nat} {Ls : Array Slot} {z : Int32} {rest : List Value} (hret : meth.sig.returnType = some .boolean) (hz : z = 0 ∨ z = 1)
    (hd : decode c.code pc = .ok (.ireturn, 1)) (hP : ∀ U : State, U.heap = T.heap → ReturnedEndW s (.returned (some (.int z))) U locs cells slots → P U (.returned (some (.int z)))) : Go p.tables e below P (T.setTop (mkF m pc Ls (.int z :: rest))) :=
  Go.retW X hx hlk hS hk hret (by rcases hz with rfl | rfl <;> rfl) (Or.inl ⟨rfl, Or.inr (Or.inl rfl), _, rfl⟩) hd hP
theorem Go.retRW (X : Stand p l e R (s.setVm vm0) m args below meth c T locs cells slots) (hx : p.tables.exec = Jvm.exec) (hlk : meth.locks = false) {k0 : Nat} (hS : s.Since vm0 k0) (hk : k0 ≤ T.heap.size) {pc : Nat} {Ls : Array Slot} {w : Value} {t : FieldType} {rest : List Value} (hret : meth.sig.returnType = some t) (ht : t.isReference = true) (hw : w.isRef = true)
    (hd : decode c.code pc = .ok (.areturn, 1)) (hP : ∀ U : State, U.heap = T.heap → ReturnedEndW s (.returned (some w)) U locs cells slots → P U (.returned (some w))) : Go p.tables e below P (T.setTop (mkF m pc Ls (w :: rest))) :=
  Go.retW X hx hlk hS hk hret (by rcases ref_cases hw with rfl | ⟨z, rfl⟩ <;> cases t <;> first | rfl | (cases ht)) (Or.inr (Or.inr (Or.inr (Or.inr ⟨rfl, ht, hw⟩)))) hd hP
theorem ConW.virtual {y : MethodName} {bytes : ByteArray} {maxL : Nat} {ret : Option FieldType} {rm : Room} {as' : Array Value} {Q : Option Value → Heap → List Loc → Prop} (K : ConW l Z y bytes maxL ret [] rm as' h Q)
    (X : Stand p l e R (s.setVm vm0) m args below meth c T locs cells slots) (hx : p.tables.exec = Jvm.exec) (hZ : Z.Warmed39 (s.setVm vm0).vm) {own C : String} {index W k0 : Nat} (hown : (s.setVm vm0).vm.findClass own = some m.cls) (hS : s.Since vm0 k0) (hk : k0 ≤ h.size)
    (wl : (Cond.methodLink own index y).before a0 Z = true) (wd : (Cond.declares y).before a0 Z = true) (wsel : (Cond.selects C y y).before a0 Z = true) (wi : (Cond.instanceMethod y).before a0 Z = true) (wz : (Cond.initialized y.cls).before a0 Z = true) (wc : (Cond.code y bytes maxL ret).before a0 Z = true)
    (hy : y.cls ≠ "java/lang/invoke/MethodHandle" ∧ y.cls ≠ "java/lang/invoke/VarHandle") (hf : rm.frames + 1 ≤ R.frames) (hl : W + (maxL + 11) + rm.locals ≤ R.locals) (hce : cells + rm.cells ≤ R.cells) (hsl : slots + rm.slots ≤ R.slots) (eT : T.heap = h)
    {g : JFrame} (hg : g.method = m) (hsize : g.locals.size = c.maxLocals) {a : Addr} (E : Exa Z h a C) {argsL rest : List Value} (has : (Value.ref a :: argsL).toArray = as') (hlen : ∀ sig, parseMethodDescriptor y.desc = some sig → argsL.length = sig.parameters.length)
    (hstack : g.stack = argsL.reverse ++ .ref a :: rest) (hW : 2 * g.monitorRoom + (rest.map fun v => v.category).sum ≤ W) (hdg : decode c.code g.pc = .ok (.invokevirtual index, 3)) :
    ∃ (v : Option Value) (T' : State) (L : List Loc), Stand p l e R (s.setVm T'.vm) m args below meth c T' (locs ++ L) (cells + rm.cells) (slots + rm.slots) ∧ Q v T'.heap L ∧ s.Since T'.vm T'.heap.size ∧ Z.Warmed39 (s.setVm T'.vm).vm ∧ (s.setVm T'.vm).vm.findClass own = some m.cls ∧
      ∀ {t : State}, Steps p.tables e below (T'.setTop { g with pc := g.pc + 3, stack := v.toList ++ rest }) t → Steps p.tables e below (T.setTop g) t := by
  obtain ⟨cq, kq, qa, qb, qc⟩ := isOf hZ eT E
  obtain ⟨v, vm₁, ⟨T', L', k', n'⟩, -, X', hS2, hg2, ⟨L, hQ, e1, e2, e3⟩, st⟩ := X.virtualBackS hx hown (mvT hZ wl) (mvT hZ wd) (notFace_of_selects (args := #[]) (mvT hZ wsel)) (mvT hZ wsel) (mvT hZ wi) hy (backOfS (W := W) K hZ wc wz hf hl) qa qc hg hsize (Steps.refl _) hlen hstack hW hdg (fun _ _ => ⟨has, eT, hce, hsl⟩)
  dsimp only [Pt.U, Pt.locs, Pt.cells, Pt.slots] at X' e1 e2 e3 st hQ hS2 hg2
  subst e1 e2 e3
  exact ⟨v, T', L, X', hQ, hS.trans hS2 (Nat.le_trans hk (by rw [← eT]; exact hg2)), State.Warmed39.trans (t := s.setVm vm0) hZ hS2.1, by rw [show (s.setVm T'.vm).vm = T'.vm from rfl, hS2.1.alike.findClass]; exact hown, fun {t} k => st.trans k⟩
end WalkW
end Jvm.OwnKit
namespace Jvm.Pilot.@@N@@
open Jvm Jvm.ClassFile Sem Op Lib Jvm.Free Jvm.Stand Jvm.LawKit Jvm.RoadKit Bundle Jvm.Pilot.@@N@@.Jvm.D Jvm.OwnKit
/-- the constant as the sheet says it -/
def own_text : String := match (tables_1[30]? : Option Jvm.Cond) with
  | some (Jvm.Cond.stringLink _ _ s) => s
  | _ => ""
theorem own_wS {Z : State} {a0 : Array Value} (hw : ∀ d ∈ tables_1, d.before a0 Z = true) : ∀ a ∈ Bundle.stringAtoms, a.before a0 Z = true := by
  intro a ha
  simp only [Bundle.stringAtoms, List.mem_cons, List.not_mem_nil, or_false] at ha
  rcases ha with rfl | rfl | rfl | rfl | rfl | rfl | rfl
  · exact hw _ (List.mem_of_getElem? (i := 31) rfl)
  · exact hw _ (List.mem_of_getElem? (i := 32) rfl)
  · exact hw _ (List.mem_of_getElem? (i := 33) rfl)
  · exact hw _ (List.mem_of_getElem? (i := 34) rfl)
  · exact hw _ (List.mem_of_getElem? (i := 35) rfl)
  · exact hw _ (List.mem_of_getElem? (i := 36) rfl)
  · exact hw _ (List.mem_of_getElem? (i := 37) rfl)
def own_f3 (od : Int32) : Int32 := od
theorem own_ef3 (m : MethodId) (a : Addr) : entryFrame m #[(.ref a)] 1 = mkF m 0 #[.val (.ref a)] [] := by
  (first | (simp [entryFrame, mkF, argsToLocals, Value.category]; done) | rfl)
theorem own_pn_0 : plainName "java/lang/Enum" = true := by first | (simp [plainName, overriddenIn]; done) | decide +kernel
theorem own_d3_0 : decode jdk_37_method_2_code 0 = .ok (.aload_n 0, 1) := by decide +kernel
theorem own_d3_1 : decode jdk_37_method_2_code 1 = .ok (.getfield 7, 3) := by decide +kernel
theorem own_d3_4 : decode jdk_37_method_2_code 4 = .ok (.ireturn, 1) := by decide +kernel
set_option maxRecDepth 65536 in
set_option maxHeartbeats 40000000 in
theorem own_rm3 (l : Launch) (Z : State) (a0 : Array Value) (hw : ∀ d ∈ tables_1, d.before a0 Z = true) (ws : List Jvm.Cond) (a : Addr) (od : Int32) (h0 : Heap) (n0 : Nat) (Z0 : n0 ≤ h0.size)  (F_ordinal : Fld Z h0 a "java/lang/Enum" "ordinal" "I" (.int od))  :
    Con l Z (⟨"java/lang/Enum", "ordinal", "()I"⟩ : MethodName) jdk_37_method_2_code 1 (some .int) ws ({ frames := 0, cells := 0, slots := 0, locals := 0 } : Room) #[(.ref a)] h0 (fun v h L => v = some (.int (own_f3 od)) ∧ Fr n0 L ∧ h = h0) := by
  refine Con.intro (plainFor_of_name own_pn_0) ?_
  intro p e s m below meth c s₁ P hx hby hml hown hnm hret hlk hZ X0 e0 hP
  have N0 := Fr.nil n0
  have hown : s.vm.findClass "java/lang/Enum" = some m.cls := hown
  refine Go.cast (own_ef3 m a) ?_
  show Go p.tables e below P (s₁.setTop (mkF m 0 #[.val (.ref a)] []))
  refine Go.s (fun kz => XS.aloadN X0.here hx rfl (hb hby own_d3_0) rfl rfl kz) ?_
  show Go p.tables e below P (s₁.setTop (mkF m 1 #[.val (.ref a)] [(.ref a)]))
  obtain ⟨T1, X1, e1, st1⟩ := getF X0 hx hZ hown (host := "") (Or.inl (hw _ (List.mem_of_getElem? (i := 23) rfl))) Via.refl e0 F_ordinal (g := (mkF m 1 #[.val (.ref a)] [(.ref a)])) rfl rfl (hb hby own_d3_1)
  refine Go.s (fun {t} => st1 t) ?_
  show Go p.tables e below P (T1.setTop (mkF m 4 #[.val (.ref a)] [(.int od)]))
  exact Go.retI X1 hx hlk hret (hb hby own_d3_4) (fun U hU hF => hP U _ _ (by rw [hU, e1]; exact ⟨congrArg some (congrArg Value.int (Eq.symm (by rw [own_f3]))), N0, rfl⟩) ⟨hF.1, hF.2.1, hF.2.2.mono (by decide) (by decide)⟩)
theorem own_ef1_1 (m : MethodId) : entryFrame m #[(.int (1 : Int32))] 1 = mkF m 0 #[.val (.int (1 : Int32))] [] := by
  (first | (simp [entryFrame, mkF, argsToLocals, Value.category]; done) | rfl)
theorem own_pn_1 : plainName "com/example/impart/impart/Truth" = true := by first | (simp [plainName, overriddenIn]; done) | decide +kernel
theorem own_d1_0 : decode prog_54_method_4_code 0 = .ok (.iload_n 0, 1) := by decide +kernel
theorem own_d1_1 : decode prog_54_method_4_code 1 = .ok (.ifCond .eq 9, 3) := by decide +kernel
theorem own_d1_4 : decode prog_54_method_4_code 4 = .ok (.getstatic 3, 3) := by decide +kernel
theorem own_d1_7 : decode prog_54_method_4_code 7 = .ok (.goto 6, 3) := by decide +kernel
theorem own_d1_13 : decode prog_54_method_4_code 13 = .ok (.areturn, 1) := by decide +kernel
set_option maxRecDepth 65536 in
set_option maxHeartbeats 40000000 in
theorem own_rm1_1 (l : Launch) (Z : State) (a0 : Array Value) (hw : ∀ d ∈ tables_1, d.before a0 Z = true) (ws : List Jvm.Cond) (aT : Nat) (h0 : Heap) (n0 : Nat) (Z0 : n0 ≤ h0.size) (S_T : Sta Z h0 "com/example/impart/impart/Truth" "TRUE" "Lcom/example/impart/impart/Truth;" (.ref aT)) :
    Con l Z (⟨"com/example/impart/impart/Truth", "of", "(Z)Lcom/example/impart/impart/Truth;"⟩ : MethodName) prog_54_method_4_code 1 (some (.object "com/example/impart/impart/Truth")) ws ({ frames := 0, cells := 0, slots := 0, locals := 0 } : Room) #[(.int (1 : Int32))] h0 (fun v h L => v = some (.ref aT) ∧ Fr n0 L ∧ h = h0) := by
  refine Con.intro (plainFor_of_name own_pn_1) ?_
  intro p e s m below meth c s₁ P hx hby hml hown hnm hret hlk hZ X0 e0 hP
  have N0 := Fr.nil n0
  have hown : s.vm.findClass "com/example/impart/impart/Truth" = some m.cls := hown
  refine Go.cast (own_ef1_1 m ) ?_
  show Go p.tables e below P (s₁.setTop (mkF m 0 #[.val (.int (1 : Int32))] []))
  refine Go.s (fun kz => XS.iloadN X0.here hx rfl (hb hby own_d1_0) rfl kz) ?_
  show Go p.tables e below P (s₁.setTop (mkF m 1 #[.val (.int (1 : Int32))] [(.int (1 : Int32))]))
  refine Go.s (fun kz => XS.ifNo X0.here hx rfl (hb hby own_d1_1) rfl (XT.i0_eq_f (by decide)) kz) ?_
  show Go p.tables e below P (s₁.setTop (mkF m 4 #[.val (.int (1 : Int32))] []))
  obtain ⟨T1, X1, e1, st1⟩ := getS2 X0 hx hZ hown (host := "") (Or.inl (hw _ (List.mem_of_getElem? (i := 6) rfl))) Via.refl e0 S_T (g := (mkF m 4 #[.val (.int (1 : Int32))] [])) rfl (hb hby own_d1_4)
  refine Go.s (fun {t} => st1 t) ?_
  show Go p.tables e below P (T1.setTop (mkF m 7 #[.val (.int (1 : Int32))] [(.ref aT)]))
  refine Go.s (fun kz => XS.goto X1.here hx rfl (pc0 := 7) (pc' := 13) rfl (hb hby own_d1_7) (by decide) (by decide) kz) ?_
  show Go p.tables e below P (T1.setTop (mkF m 13 #[.val (.int (1 : Int32))] [(.ref aT)]))
  exact Go.retR X1 hx hlk hret rfl rfl (hb hby own_d1_13) (fun U hU hF => hP U _ _ (by rw [hU, e1]; exact ⟨rfl, N0, rfl⟩) ⟨hF.1, hF.2.1, hF.2.2.mono (by decide) (by decide)⟩)
theorem own_ef1_0 (m : MethodId) : entryFrame m #[(.int (0 : Int32))] 1 = mkF m 0 #[.val (.int (0 : Int32))] [] := by
  (first | (simp [entryFrame, mkF, argsToLocals, Value.category]; done) | rfl)
theorem own_d1_10 : decode prog_54_method_4_code 10 = .ok (.getstatic 7, 3) := by decide +kernel
set_option maxRecDepth 65536 in
set_option maxHeartbeats 40000000 in
theorem own_rm1_0 (l : Launch) (Z : State) (a0 : Array Value) (hw : ∀ d ∈ tables_1, d.before a0 Z = true) (ws : List Jvm.Cond) (aF : Nat) (h0 : Heap) (n0 : Nat) (Z0 : n0 ≤ h0.size) (S_F : Sta Z h0 "com/example/impart/impart/Truth" "FALSE" "Lcom/example/impart/impart/Truth;" (.ref aF)) :
    Con l Z (⟨"com/example/impart/impart/Truth", "of", "(Z)Lcom/example/impart/impart/Truth;"⟩ : MethodName) prog_54_method_4_code 1 (some (.object "com/example/impart/impart/Truth")) ws ({ frames := 0, cells := 0, slots := 0, locals := 0 } : Room) #[(.int (0 : Int32))] h0 (fun v h L => v = some (.ref aF) ∧ Fr n0 L ∧ h = h0) := by
  refine Con.intro (plainFor_of_name own_pn_1) ?_
  intro p e s m below meth c s₁ P hx hby hml hown hnm hret hlk hZ X0 e0 hP
  have N0 := Fr.nil n0
  have hown : s.vm.findClass "com/example/impart/impart/Truth" = some m.cls := hown
  refine Go.cast (own_ef1_0 m ) ?_
  show Go p.tables e below P (s₁.setTop (mkF m 0 #[.val (.int (0 : Int32))] []))
  refine Go.s (fun kz => XS.iloadN X0.here hx rfl (hb hby own_d1_0) rfl kz) ?_
  show Go p.tables e below P (s₁.setTop (mkF m 1 #[.val (.int (0 : Int32))] [(.int (0 : Int32))]))
  refine Go.s (fun kz => XS.ifYes X0.here hx rfl (pc0 := 1) (pc' := 10) rfl (hb hby own_d1_1) rfl (XT.i0_eq_t (by decide)) (by decide) (by decide) kz) ?_
  show Go p.tables e below P (s₁.setTop (mkF m 10 #[.val (.int (0 : Int32))] []))
  obtain ⟨T1, X1, e1, st1⟩ := getS2 X0 hx hZ hown (host := "") (Or.inl (hw _ (List.mem_of_getElem? (i := 4) rfl))) Via.refl e0 S_F (g := (mkF m 10 #[.val (.int (0 : Int32))] [])) rfl (hb hby own_d1_10)
  refine Go.s (fun {t} => st1 t) ?_
  show Go p.tables e below P (T1.setTop (mkF m 13 #[.val (.int (0 : Int32))] [(.ref aF)]))
  exact Go.retR X1 hx hlk hret rfl rfl (hb hby own_d1_13) (fun U hU hF => hP U _ _ (by rw [hU, e1]; exact ⟨rfl, N0, rfl⟩) ⟨hF.1, hF.2.1, hF.2.2.mono (by decide) (by decide)⟩)
theorem own_ef2_T (m : MethodId) (aT : Addr) : entryFrame m #[(.ref aT)] 1 = mkF m 0 #[.val (.ref aT)] [] := by
  (first | (simp [entryFrame, mkF, argsToLocals, Value.category]; done) | rfl)
theorem own_d2_0 : decode prog_54_method_5_code 0 = .ok (.aload_n 0, 1) := by decide +kernel
theorem own_pd_0 : parseMethodDescriptor "()I" = some ⟨[], some .int⟩ := by decide +kernel
theorem own_d2_1 : decode prog_54_method_5_code 1 = .ok (.invokevirtual 32, 3) := by decide +kernel
theorem own_d2_4 : decode prog_54_method_5_code 4 = .ok (.tableswitch 28 0 2 #[38, 44, 50], 28) := by decide +kernel
theorem own_d2_42 : decode prog_54_method_5_code 42 = .ok (.getstatic 7, 3) := by decide +kernel
theorem own_d2_45 : decode prog_54_method_5_code 45 = .ok (.goto 12, 3) := by decide +kernel
theorem own_d2_57 : decode prog_54_method_5_code 57 = .ok (.areturn, 1) := by decide +kernel
set_option maxRecDepth 65536 in
set_option maxHeartbeats 40000000 in
theorem own_rm2_T (l : Launch) (Z : State) (a0 : Array Value) (hw : ∀ d ∈ tables_1, d.before a0 Z = true) (ws : List Jvm.Cond) (aT aF : Nat) (h0 : Heap) (n0 : Nat) (Z0 : n0 ≤ h0.size) (S_F : Sta Z h0 "com/example/impart/impart/Truth" "FALSE" "Lcom/example/impart/impart/Truth;" (.ref aF)) (E_a : Exa Z h0 aT "com/example/impart/impart/Truth") (F_o : Fld Z h0 aT "java/lang/Enum" "ordinal" "I" (.int (0 : Int32))) :
    Con l Z (⟨"com/example/impart/impart/Truth", "not", "()Lcom/example/impart/impart/Truth;"⟩ : MethodName) prog_54_method_5_code 1 (some (.object "com/example/impart/impart/Truth")) ws ({ frames := 1, cells := 0, slots := 0, locals := 12 } : Room) #[(.ref aT)] h0 (fun v h L => v = some (.ref aF) ∧ Fr n0 L ∧ h = h0) := by
  refine Con.intro (plainFor_of_name own_pn_1) ?_
  intro p e s m below meth c s₁ P hx hby hml hown hnm hret hlk hZ X0 e0 hP
  have N0 := Fr.nil n0
  have hown : s.vm.findClass "com/example/impart/impart/Truth" = some m.cls := hown
  refine Go.cast (own_ef2_T m aT) ?_
  show Go p.tables e below P (s₁.setTop (mkF m 0 #[.val (.ref aT)] []))
  refine Go.s (fun kz => XS.aloadN X0.here hx rfl (hb hby own_d2_0) rfl rfl kz) ?_
  show Go p.tables e below P (s₁.setTop (mkF m 1 #[.val (.ref aT)] [(.ref aT)]))
  obtain ⟨v1, T1, L1, X1, Q1, st1⟩ := Con.virtualUp (own_rm3 l Z a0 hw [] aT (0 : Int32) h0 n0 Z0 F_o ) X0 hx hZ (W := 0) hown (hw _ (List.mem_of_getElem? (i := 16) rfl)) (hw _ (List.mem_of_getElem? (i := 17) rfl)) (hw _ (List.mem_of_getElem? (i := 18) rfl)) (hw _ (List.mem_of_getElem? (i := 20) rfl)) (hw _ (List.mem_of_getElem? (i := 19) rfl)) (hw _ (List.mem_of_getElem? (i := 21) rfl)) (hw _ (List.mem_of_getElem? (i := 22) rfl)) (by decide) (by decide) (by decide) (by decide) (by decide) e0 (g := (mkF m 1 #[.val (.ref aT)] [(.ref aT)])) rfl (by rw [hml]; rfl) E_a (argsL := []) (rest := []) rfl (lenOf own_pd_0 rfl) rfl (by show 2 * 0 + _ ≤ _; exact Nat.le_of_eq rfl) (hb hby own_d2_1)
  obtain ⟨rfl, Nq1, e1⟩ := Q1
  have N1 := Fr.app N0 Nq1
  refine Go.s (fun {t} => st1) ?_
  show Go p.tables e below P (T1.setTop (mkF m 4 #[.val (.ref aT)] [(.int (own_f3 (0 : Int32)))]))
  refine Go.s (fun kz => XS.tswIn X1.here hx rfl (pc0 := 4) (pc' := 42) rfl (hb hby own_d2_4) rfl (by decide) (by rfl) (by decide) (by decide) kz) ?_
  show Go p.tables e below P (T1.setTop (mkF m 42 #[.val (.ref aT)] []))
  obtain ⟨T2, X2, e2, st2⟩ := getS2 X1 hx hZ hown (host := "") (Or.inl (hw _ (List.mem_of_getElem? (i := 4) rfl))) Via.refl e1 S_F (g := (mkF m 42 #[.val (.ref aT)] [])) rfl (hb hby own_d2_42)
  refine Go.s (fun {t} => st2 t) ?_
  show Go p.tables e below P (T2.setTop (mkF m 45 #[.val (.ref aT)] [(.ref aF)]))
  refine Go.s (fun kz => XS.goto X2.here hx rfl (pc0 := 45) (pc' := 57) rfl (hb hby own_d2_45) (by decide) (by decide) kz) ?_
  show Go p.tables e below P (T2.setTop (mkF m 57 #[.val (.ref aT)] [(.ref aF)]))
  exact Go.retR X2 hx hlk hret rfl rfl (hb hby own_d2_57) (fun U hU hF => hP U _ _ (by rw [hU, e2]; exact ⟨rfl, N1, rfl⟩) ⟨hF.1, hF.2.1, hF.2.2.mono (by decide) (by decide)⟩)
theorem own_ef2_F (m : MethodId) (aF : Addr) : entryFrame m #[(.ref aF)] 1 = mkF m 0 #[.val (.ref aF)] [] := by
  (first | (simp [entryFrame, mkF, argsToLocals, Value.category]; done) | rfl)
theorem own_d2_48 : decode prog_54_method_5_code 48 = .ok (.getstatic 3, 3) := by decide +kernel
theorem own_d2_51 : decode prog_54_method_5_code 51 = .ok (.goto 6, 3) := by decide +kernel
set_option maxRecDepth 65536 in
set_option maxHeartbeats 40000000 in
theorem own_rm2_F (l : Launch) (Z : State) (a0 : Array Value) (hw : ∀ d ∈ tables_1, d.before a0 Z = true) (ws : List Jvm.Cond) (aT aF : Nat) (h0 : Heap) (n0 : Nat) (Z0 : n0 ≤ h0.size) (S_T : Sta Z h0 "com/example/impart/impart/Truth" "TRUE" "Lcom/example/impart/impart/Truth;" (.ref aT)) (E_a : Exa Z h0 aF "com/example/impart/impart/Truth") (F_o : Fld Z h0 aF "java/lang/Enum" "ordinal" "I" (.int (1 : Int32))) :
    Con l Z (⟨"com/example/impart/impart/Truth", "not", "()Lcom/example/impart/impart/Truth;"⟩ : MethodName) prog_54_method_5_code 1 (some (.object "com/example/impart/impart/Truth")) ws ({ frames := 1, cells := 0, slots := 0, locals := 12 } : Room) #[(.ref aF)] h0 (fun v h L => v = some (.ref aT) ∧ Fr n0 L ∧ h = h0) := by
  refine Con.intro (plainFor_of_name own_pn_1) ?_
  intro p e s m below meth c s₁ P hx hby hml hown hnm hret hlk hZ X0 e0 hP
  have N0 := Fr.nil n0
  have hown : s.vm.findClass "com/example/impart/impart/Truth" = some m.cls := hown
  refine Go.cast (own_ef2_F m aF) ?_
  show Go p.tables e below P (s₁.setTop (mkF m 0 #[.val (.ref aF)] []))
  refine Go.s (fun kz => XS.aloadN X0.here hx rfl (hb hby own_d2_0) rfl rfl kz) ?_
  show Go p.tables e below P (s₁.setTop (mkF m 1 #[.val (.ref aF)] [(.ref aF)]))
  obtain ⟨v1, T1, L1, X1, Q1, st1⟩ := Con.virtualUp (own_rm3 l Z a0 hw [] aF (1 : Int32) h0 n0 Z0 F_o ) X0 hx hZ (W := 0) hown (hw _ (List.mem_of_getElem? (i := 16) rfl)) (hw _ (List.mem_of_getElem? (i := 17) rfl)) (hw _ (List.mem_of_getElem? (i := 18) rfl)) (hw _ (List.mem_of_getElem? (i := 20) rfl)) (hw _ (List.mem_of_getElem? (i := 19) rfl)) (hw _ (List.mem_of_getElem? (i := 21) rfl)) (hw _ (List.mem_of_getElem? (i := 22) rfl)) (by decide) (by decide) (by decide) (by decide) (by decide) e0 (g := (mkF m 1 #[.val (.ref aF)] [(.ref aF)])) rfl (by rw [hml]; rfl) E_a (argsL := []) (rest := []) rfl (lenOf own_pd_0 rfl) rfl (by show 2 * 0 + _ ≤ _; exact Nat.le_of_eq rfl) (hb hby own_d2_1)
  obtain ⟨rfl, Nq1, e1⟩ := Q1
  have N1 := Fr.app N0 Nq1
  refine Go.s (fun {t} => st1) ?_
  show Go p.tables e below P (T1.setTop (mkF m 4 #[.val (.ref aF)] [(.int (own_f3 (1 : Int32)))]))
  refine Go.s (fun kz => XS.tswIn X1.here hx rfl (pc0 := 4) (pc' := 48) rfl (hb hby own_d2_4) rfl (by decide) (by rfl) (by decide) (by decide) kz) ?_
  show Go p.tables e below P (T1.setTop (mkF m 48 #[.val (.ref aF)] []))
  obtain ⟨T2, X2, e2, st2⟩ := getS2 X1 hx hZ hown (host := "") (Or.inl (hw _ (List.mem_of_getElem? (i := 6) rfl))) Via.refl e1 S_T (g := (mkF m 48 #[.val (.ref aF)] [])) rfl (hb hby own_d2_48)
  refine Go.s (fun {t} => st2 t) ?_
  show Go p.tables e below P (T2.setTop (mkF m 51 #[.val (.ref aF)] [(.ref aT)]))
  refine Go.s (fun kz => XS.goto X2.here hx rfl (pc0 := 51) (pc' := 57) rfl (hb hby own_d2_51) (by decide) (by decide) kz) ?_
  show Go p.tables e below P (T2.setTop (mkF m 57 #[.val (.ref aF)] [(.ref aT)]))
  exact Go.retR X2 hx hlk hret rfl rfl (hb hby own_d2_57) (fun U hU hF => hP U _ _ (by rw [hU, e2]; exact ⟨rfl, N1, rfl⟩) ⟨hF.1, hF.2.1, hF.2.2.mono (by decide) (by decide)⟩)
theorem own_ef5 (m : MethodId) (o : Addr) (ms : Addr) : entryFrame m #[(.ref o), (.ref ms)] 2 = mkF m 0 #[.val (.ref o), .val (.ref ms)] [] := by
  (first | (simp [entryFrame, mkF, argsToLocals, Value.category]; done) | rfl)
theorem own_pn_2 : plainName "java/util/Objects" = true := by first | (simp [plainName, overriddenIn]; done) | decide +kernel
theorem own_d5_0 : decode jdk_31_method_11_code 0 = .ok (.aload_n 0, 1) := by decide +kernel
theorem own_d5_1 : decode jdk_31_method_11_code 1 = .ok (.ifnonnull 12, 3) := by decide +kernel
theorem own_d5_13 : decode jdk_31_method_11_code 13 = .ok (.aload_n 0, 1) := by decide +kernel
theorem own_d5_14 : decode jdk_31_method_11_code 14 = .ok (.areturn, 1) := by decide +kernel
set_option maxRecDepth 65536 in
set_option maxHeartbeats 40000000 in
theorem own_rm5 (l : Launch) (Z : State) (a0 : Array Value) (hw : ∀ d ∈ tables_1, d.before a0 Z = true) (ws : List Jvm.Cond) (o : Addr) (ms : Addr) (h0 : Heap) (n0 : Nat) (Z0 : n0 ≤ h0.size)  :
    Con l Z (⟨"java/util/Objects", "requireNonNull", "(Ljava/lang/Object;Ljava/lang/String;)Ljava/lang/Object;"⟩ : MethodName) jdk_31_method_11_code 2 (some (.object "java/lang/Object")) ws ({ frames := 0, cells := 0, slots := 0, locals := 0 } : Room) #[(.ref o), (.ref ms)] h0 (fun v h L => v = some (.ref o) ∧ Fr n0 L ∧ h = h0) := by
  refine Con.intro (plainFor_of_name own_pn_2) ?_
  intro p e s m below meth c s₁ P hx hby hml hown hnm hret hlk hZ X0 e0 hP
  have N0 := Fr.nil n0
  have hown : s.vm.findClass "java/util/Objects" = some m.cls := hown
  refine Go.cast (own_ef5 m o ms) ?_
  show Go p.tables e below P (s₁.setTop (mkF m 0 #[.val (.ref o), .val (.ref ms)] []))
  refine Go.s (fun kz => XS.aloadN X0.here hx rfl (hb hby own_d5_0) rfl rfl kz) ?_
  show Go p.tables e below P (s₁.setTop (mkF m 1 #[.val (.ref o), .val (.ref ms)] [(.ref o)]))
  refine Go.s (fun kz => XT.ifnonnullYes X0.here hx rfl (pc0 := 1) (pc' := 13) rfl (hb hby own_d5_1) rfl (by decide) (by decide) kz) ?_
  show Go p.tables e below P (s₁.setTop (mkF m 13 #[.val (.ref o), .val (.ref ms)] []))
  refine Go.s (fun kz => XS.aloadN X0.here hx rfl (hb hby own_d5_13) rfl rfl kz) ?_
  show Go p.tables e below P (s₁.setTop (mkF m 14 #[.val (.ref o), .val (.ref ms)] [(.ref o)]))
  exact Go.retR X0 hx hlk hret rfl rfl (hb hby own_d5_14) (fun U hU hF => hP U _ _ (by rw [hU, e0]; exact ⟨rfl, N0, rfl⟩) ⟨hF.1, hF.2.1, hF.2.2.mono (by decide) (by decide)⟩)
theorem own_ef4_TT (m : MethodId) (aT : Addr) : entryFrame m #[(.ref aT), (.ref aT)] 2 = mkF m 0 #[.val (.ref aT), .val (.ref aT)] [] := by
  (first | (simp [entryFrame, mkF, argsToLocals, Value.category]; done) | rfl)
theorem own_d4_0 : decode prog_54_method_6_code 0 = .ok (.aload_n 1, 1) := by decide +kernel
theorem own_d4_1 : decode prog_54_method_6_code 1 = .ok (.ldc 41, 2) := by decide +kernel
theorem own_pd_1 : parseMethodDescriptor "(Ljava/lang/Object;Ljava/lang/String;)Ljava/lang/Object;" = some ⟨[(.object "java/lang/Object"), (.object "java/lang/String")], some (.object "java/lang/Object")⟩ := by decide +kernel
theorem own_d4_3 : decode prog_54_method_6_code 3 = .ok (.invokestatic 43, 3) := by decide +kernel
theorem own_d4_6 : decode prog_54_method_6_code 6 = .ok (.pop, 1) := by decide +kernel
theorem own_d4_7 : decode prog_54_method_6_code 7 = .ok (.aload_n 0, 1) := by decide +kernel
theorem own_d4_8 : decode prog_54_method_6_code 8 = .ok (.getstatic 7, 3) := by decide +kernel
theorem own_d4_11 : decode prog_54_method_6_code 11 = .ok (.if_acmp .eq 10, 3) := by decide +kernel
theorem own_d4_14 : decode prog_54_method_6_code 14 = .ok (.aload_n 1, 1) := by decide +kernel
theorem own_d4_15 : decode prog_54_method_6_code 15 = .ok (.getstatic 7, 3) := by decide +kernel
theorem own_d4_18 : decode prog_54_method_6_code 18 = .ok (.if_acmp .ne 7, 3) := by decide +kernel
theorem own_d4_25 : decode prog_54_method_6_code 25 = .ok (.aload_n 0, 1) := by decide +kernel
theorem own_d4_26 : decode prog_54_method_6_code 26 = .ok (.getstatic 10, 3) := by decide +kernel
theorem own_d4_29 : decode prog_54_method_6_code 29 = .ok (.if_acmp .eq 10, 3) := by decide +kernel
theorem own_d4_32 : decode prog_54_method_6_code 32 = .ok (.aload_n 1, 1) := by decide +kernel
theorem own_d4_33 : decode prog_54_method_6_code 33 = .ok (.getstatic 10, 3) := by decide +kernel
theorem own_d4_36 : decode prog_54_method_6_code 36 = .ok (.if_acmp .ne 9, 3) := by decide +kernel
theorem own_d4_45 : decode prog_54_method_6_code 45 = .ok (.getstatic 3, 3) := by decide +kernel
theorem own_d4_48 : decode prog_54_method_6_code 48 = .ok (.areturn, 1) := by decide +kernel
set_option maxRecDepth 65536 in
set_option maxHeartbeats 40000000 in
theorem own_rm4_TT (l : Launch) (Z : State) (a0 : Array Value) (hw : ∀ d ∈ tables_1, d.before a0 Z = true) (ws : List Jvm.Cond) (aT aF aU : Nat) (h0 : Heap) (n0 : Nat) (Z0 : n0 ≤ h0.size) (S_T : Sta Z h0 "com/example/impart/impart/Truth" "TRUE" "Lcom/example/impart/impart/Truth;" (.ref aT)) (S_F : Sta Z h0 "com/example/impart/impart/Truth" "FALSE" "Lcom/example/impart/impart/Truth;" (.ref aF)) (S_U : Sta Z h0 "com/example/impart/impart/Truth" "UNKNOWN" "Lcom/example/impart/impart/Truth;" (.ref aU)) (hTF : aT ≠ aF) (hTU : aT ≠ aU) (hFU : aF ≠ aU) :
    ConW l Z (⟨"com/example/impart/impart/Truth", "and", "(Lcom/example/impart/impart/Truth;)Lcom/example/impart/impart/Truth;"⟩ : MethodName) prog_54_method_6_code 2 (some (.object "com/example/impart/impart/Truth")) ws ({ frames := 1, cells := 2, slots := 84, locals := 13 } : Room) #[(.ref aT), (.ref aT)] h0 (fun v h L => v = some (.ref aT) ∧ Fr n0 L ∧ Ext h0 h) := by
  refine ConW.intro (plainFor_of_name own_pn_1) ?_
  intro p e s m below meth c s₁ P hx hby hml hown hnm hret hlk hZ X0 e0 hS hP
  have N0 := Fr.nil n0
  have hk := Nat.zero_le h0.size
  have hown : (s.setVm s.vm).vm.findClass "com/example/impart/impart/Truth" = some m.cls := hown
  refine Go.cast (own_ef4_TT m aT) ?_
  show Go p.tables e below P (s₁.setTop (mkF m 0 #[.val (.ref aT), .val (.ref aT)] []))
  refine Go.s (fun kz => XS.aloadN X0.here hx rfl (hb hby own_d4_0) rfl rfl kz) ?_
  show Go p.tables e below P (s₁.setTop (mkF m 1 #[.val (.ref aT), .val (.ref aT)] [(.ref aT)]))
  obtain ⟨b1, T1, H1, ks1, X1, e1, E1, hS, hk, hZ, hown, st1⟩ := ldcS X0 hx hZ hown (hw _ (List.mem_of_getElem? (i := 30) rfl)) (own_wS hw) e0 hS hk (g := (mkF m 1 #[.val (.ref aT), .val (.ref aT)] [(.ref aT)])) rfl (hb hby own_d4_1) (n := 80) (by decide) (by decide) (by decide) (by decide)
  refine Go.s (fun {t} => st1 t) ?_
  have S_T_2 := Sta.ext E1 S_T
  have S_F_3 := Sta.ext E1 S_F
  have S_U_4 := Sta.ext E1 S_U
  have Zs1 := Nat.le_trans Z0 E1.1
  show Go p.tables e below P (T1.setTop (mkF m 3 #[.val (.ref aT), .val (.ref aT)] [(.ref b1), (.ref aT)]))
  obtain ⟨v5, T5, L5, X5, Q5, st5⟩ := Con.static (own_rm5 l Z a0 hw [] aT b1 H1 n0 Zs1) X1 hx hZ (W := 0) hown (hw _ (List.mem_of_getElem? (i := 38) rfl)) (hw _ (List.mem_of_getElem? (i := 39) rfl)) (hw _ (List.mem_of_getElem? (i := 40) rfl)) (hw _ (List.mem_of_getElem? (i := 41) rfl)) (by decide) (by decide) (by decide) (by decide) (by decide) e1 (g := (mkF m 3 #[.val (.ref aT), .val (.ref aT)] [(.ref b1), (.ref aT)])) rfl (by rw [hml]; rfl) (argsL := [(.ref aT), (.ref b1)]) (rest := []) rfl (lenOf own_pd_1 rfl) rfl (by show 2 * 0 + _ ≤ _; exact Nat.le_of_eq rfl) (hb hby own_d4_3)
  obtain ⟨rfl, Nq5, e5⟩ := Q5
  have N5 := Fr.app N0 Nq5
  refine Go.s (fun {t} => st5) ?_
  show Go p.tables e below P (T5.setTop (mkF m 6 #[.val (.ref aT), .val (.ref aT)] [(.ref aT)]))
  refine Go.s (fun kz => XT.pop X5.here hx rfl (hb hby own_d4_6) rfl rfl kz) ?_
  show Go p.tables e below P (T5.setTop (mkF m 7 #[.val (.ref aT), .val (.ref aT)] []))
  refine Go.s (fun kz => XS.aloadN X5.here hx rfl (hb hby own_d4_7) rfl rfl kz) ?_
  show Go p.tables e below P (T5.setTop (mkF m 8 #[.val (.ref aT), .val (.ref aT)] [(.ref aT)]))
  obtain ⟨T6, X6, e6, st6⟩ := getS2 X5 hx hZ hown (host := "") (Or.inl (hw _ (List.mem_of_getElem? (i := 4) rfl))) Via.refl e5 S_F_3 (g := (mkF m 8 #[.val (.ref aT), .val (.ref aT)] [(.ref aT)])) rfl (hb hby own_d4_8)
  refine Go.s (fun {t} => st6 t) ?_
  show Go p.tables e below P (T6.setTop (mkF m 11 #[.val (.ref aT), .val (.ref aT)] [(.ref aF), (.ref aT)]))
  refine Go.s (fun kz => XT.acmpNo X6.here hx rfl (hb hby own_d4_11) rfl rfl rfl (XT.aa_eq_f (fun q => hTF (Value.ref.inj q))) kz) ?_
  show Go p.tables e below P (T6.setTop (mkF m 14 #[.val (.ref aT), .val (.ref aT)] []))
  refine Go.s (fun kz => XS.aloadN X6.here hx rfl (hb hby own_d4_14) rfl rfl kz) ?_
  show Go p.tables e below P (T6.setTop (mkF m 15 #[.val (.ref aT), .val (.ref aT)] [(.ref aT)]))
  obtain ⟨T7, X7, e7, st7⟩ := getS2 X6 hx hZ hown (host := "") (Or.inl (hw _ (List.mem_of_getElem? (i := 4) rfl))) Via.refl e6 S_F_3 (g := (mkF m 15 #[.val (.ref aT), .val (.ref aT)] [(.ref aT)])) rfl (hb hby own_d4_15)
  refine Go.s (fun {t} => st7 t) ?_
  show Go p.tables e below P (T7.setTop (mkF m 18 #[.val (.ref aT), .val (.ref aT)] [(.ref aF), (.ref aT)]))
  refine Go.s (fun kz => XT.acmpYes X7.here hx rfl (pc0 := 18) (pc' := 25) rfl (hb hby own_d4_18) rfl rfl rfl (XT.aa_ne_t (fun q => hTF (Value.ref.inj q))) (by decide) (by decide) kz) ?_
  show Go p.tables e below P (T7.setTop (mkF m 25 #[.val (.ref aT), .val (.ref aT)] []))
  refine Go.s (fun kz => XS.aloadN X7.here hx rfl (hb hby own_d4_25) rfl rfl kz) ?_
  show Go p.tables e below P (T7.setTop (mkF m 26 #[.val (.ref aT), .val (.ref aT)] [(.ref aT)]))
  obtain ⟨T8, X8, e8, st8⟩ := getS2 X7 hx hZ hown (host := "") (Or.inl (hw _ (List.mem_of_getElem? (i := 47) rfl))) Via.refl e7 S_U_4 (g := (mkF m 26 #[.val (.ref aT), .val (.ref aT)] [(.ref aT)])) rfl (hb hby own_d4_26)
  refine Go.s (fun {t} => st8 t) ?_
  show Go p.tables e below P (T8.setTop (mkF m 29 #[.val (.ref aT), .val (.ref aT)] [(.ref aU), (.ref aT)]))
  refine Go.s (fun kz => XT.acmpNo X8.here hx rfl (hb hby own_d4_29) rfl rfl rfl (XT.aa_eq_f (fun q => hTU (Value.ref.inj q))) kz) ?_
  show Go p.tables e below P (T8.setTop (mkF m 32 #[.val (.ref aT), .val (.ref aT)] []))
  refine Go.s (fun kz => XS.aloadN X8.here hx rfl (hb hby own_d4_32) rfl rfl kz) ?_
  show Go p.tables e below P (T8.setTop (mkF m 33 #[.val (.ref aT), .val (.ref aT)] [(.ref aT)]))
  obtain ⟨T9, X9, e9, st9⟩ := getS2 X8 hx hZ hown (host := "") (Or.inl (hw _ (List.mem_of_getElem? (i := 47) rfl))) Via.refl e8 S_U_4 (g := (mkF m 33 #[.val (.ref aT), .val (.ref aT)] [(.ref aT)])) rfl (hb hby own_d4_33)
  refine Go.s (fun {t} => st9 t) ?_
  show Go p.tables e below P (T9.setTop (mkF m 36 #[.val (.ref aT), .val (.ref aT)] [(.ref aU), (.ref aT)]))
  refine Go.s (fun kz => XT.acmpYes X9.here hx rfl (pc0 := 36) (pc' := 45) rfl (hb hby own_d4_36) rfl rfl rfl (XT.aa_ne_t (fun q => hTU (Value.ref.inj q))) (by decide) (by decide) kz) ?_
  show Go p.tables e below P (T9.setTop (mkF m 45 #[.val (.ref aT), .val (.ref aT)] []))
  obtain ⟨T10, X10, e10, st10⟩ := getS2 X9 hx hZ hown (host := "") (Or.inl (hw _ (List.mem_of_getElem? (i := 6) rfl))) Via.refl e9 S_T_2 (g := (mkF m 45 #[.val (.ref aT), .val (.ref aT)] [])) rfl (hb hby own_d4_45)
  refine Go.s (fun {t} => st10 t) ?_
  show Go p.tables e below P (T10.setTop (mkF m 48 #[.val (.ref aT), .val (.ref aT)] [(.ref aT)]))
  exact Go.retRW X10 hx hlk hS (by rw [e10]; exact hk) hret rfl rfl (hb hby own_d4_48) (fun U hU hF => hP U _ _ (by rw [hU, e10]; exact ⟨rfl, N5, E1⟩) ⟨hF.1, hF.2.1, hF.2.2.1, hF.2.2.2.mono (by decide) (by decide)⟩)
theorem own_ef4_TF (m : MethodId) (aT : Addr) (aF : Addr) : entryFrame m #[(.ref aT), (.ref aF)] 2 = mkF m 0 #[.val (.ref aT), .val (.ref aF)] [] := by
  (first | (simp [entryFrame, mkF, argsToLocals, Value.category]; done) | rfl)
theorem own_d4_21 : decode prog_54_method_6_code 21 = .ok (.getstatic 7, 3) := by decide +kernel
theorem own_d4_24 : decode prog_54_method_6_code 24 = .ok (.areturn, 1) := by decide +kernel
set_option maxRecDepth 65536 in
set_option maxHeartbeats 40000000 in
theorem own_rm4_TF (l : Launch) (Z : State) (a0 : Array Value) (hw : ∀ d ∈ tables_1, d.before a0 Z = true) (ws : List Jvm.Cond) (aT aF aU : Nat) (h0 : Heap) (n0 : Nat) (Z0 : n0 ≤ h0.size) (S_T : Sta Z h0 "com/example/impart/impart/Truth" "TRUE" "Lcom/example/impart/impart/Truth;" (.ref aT)) (S_F : Sta Z h0 "com/example/impart/impart/Truth" "FALSE" "Lcom/example/impart/impart/Truth;" (.ref aF)) (S_U : Sta Z h0 "com/example/impart/impart/Truth" "UNKNOWN" "Lcom/example/impart/impart/Truth;" (.ref aU)) (hTF : aT ≠ aF) (hTU : aT ≠ aU) (hFU : aF ≠ aU) :
    ConW l Z (⟨"com/example/impart/impart/Truth", "and", "(Lcom/example/impart/impart/Truth;)Lcom/example/impart/impart/Truth;"⟩ : MethodName) prog_54_method_6_code 2 (some (.object "com/example/impart/impart/Truth")) ws ({ frames := 1, cells := 2, slots := 84, locals := 13 } : Room) #[(.ref aT), (.ref aF)] h0 (fun v h L => v = some (.ref aF) ∧ Fr n0 L ∧ Ext h0 h) := by
  refine ConW.intro (plainFor_of_name own_pn_1) ?_
  intro p e s m below meth c s₁ P hx hby hml hown hnm hret hlk hZ X0 e0 hS hP
  have N0 := Fr.nil n0
  have hk := Nat.zero_le h0.size
  have hown : (s.setVm s.vm).vm.findClass "com/example/impart/impart/Truth" = some m.cls := hown
  refine Go.cast (own_ef4_TF m aT aF) ?_
  show Go p.tables e below P (s₁.setTop (mkF m 0 #[.val (.ref aT), .val (.ref aF)] []))
  refine Go.s (fun kz => XS.aloadN X0.here hx rfl (hb hby own_d4_0) rfl rfl kz) ?_
  show Go p.tables e below P (s₁.setTop (mkF m 1 #[.val (.ref aT), .val (.ref aF)] [(.ref aF)]))
  obtain ⟨b1, T1, H1, ks1, X1, e1, E1, hS, hk, hZ, hown, st1⟩ := ldcS X0 hx hZ hown (hw _ (List.mem_of_getElem? (i := 30) rfl)) (own_wS hw) e0 hS hk (g := (mkF m 1 #[.val (.ref aT), .val (.ref aF)] [(.ref aF)])) rfl (hb hby own_d4_1) (n := 80) (by decide) (by decide) (by decide) (by decide)
  refine Go.s (fun {t} => st1 t) ?_
  have S_T_2 := Sta.ext E1 S_T
  have S_F_3 := Sta.ext E1 S_F
  have S_U_4 := Sta.ext E1 S_U
  have Zs1 := Nat.le_trans Z0 E1.1
  show Go p.tables e below P (T1.setTop (mkF m 3 #[.val (.ref aT), .val (.ref aF)] [(.ref b1), (.ref aF)]))
  obtain ⟨v5, T5, L5, X5, Q5, st5⟩ := Con.static (own_rm5 l Z a0 hw [] aF b1 H1 n0 Zs1) X1 hx hZ (W := 0) hown (hw _ (List.mem_of_getElem? (i := 38) rfl)) (hw _ (List.mem_of_getElem? (i := 39) rfl)) (hw _ (List.mem_of_getElem? (i := 40) rfl)) (hw _ (List.mem_of_getElem? (i := 41) rfl)) (by decide) (by decide) (by decide) (by decide) (by decide) e1 (g := (mkF m 3 #[.val (.ref aT), .val (.ref aF)] [(.ref b1), (.ref aF)])) rfl (by rw [hml]; rfl) (argsL := [(.ref aF), (.ref b1)]) (rest := []) rfl (lenOf own_pd_1 rfl) rfl (by show 2 * 0 + _ ≤ _; exact Nat.le_of_eq rfl) (hb hby own_d4_3)
  obtain ⟨rfl, Nq5, e5⟩ := Q5
  have N5 := Fr.app N0 Nq5
  refine Go.s (fun {t} => st5) ?_
  show Go p.tables e below P (T5.setTop (mkF m 6 #[.val (.ref aT), .val (.ref aF)] [(.ref aF)]))
  refine Go.s (fun kz => XT.pop X5.here hx rfl (hb hby own_d4_6) rfl rfl kz) ?_
  show Go p.tables e below P (T5.setTop (mkF m 7 #[.val (.ref aT), .val (.ref aF)] []))
  refine Go.s (fun kz => XS.aloadN X5.here hx rfl (hb hby own_d4_7) rfl rfl kz) ?_
  show Go p.tables e below P (T5.setTop (mkF m 8 #[.val (.ref aT), .val (.ref aF)] [(.ref aT)]))
  obtain ⟨T6, X6, e6, st6⟩ := getS2 X5 hx hZ hown (host := "") (Or.inl (hw _ (List.mem_of_getElem? (i := 4) rfl))) Via.refl e5 S_F_3 (g := (mkF m 8 #[.val (.ref aT), .val (.ref aF)] [(.ref aT)])) rfl (hb hby own_d4_8)
  refine Go.s (fun {t} => st6 t) ?_
  show Go p.tables e below P (T6.setTop (mkF m 11 #[.val (.ref aT), .val (.ref aF)] [(.ref aF), (.ref aT)]))
  refine Go.s (fun kz => XT.acmpNo X6.here hx rfl (hb hby own_d4_11) rfl rfl rfl (XT.aa_eq_f (fun q => hTF (Value.ref.inj q))) kz) ?_
  show Go p.tables e below P (T6.setTop (mkF m 14 #[.val (.ref aT), .val (.ref aF)] []))
  refine Go.s (fun kz => XS.aloadN X6.here hx rfl (hb hby own_d4_14) rfl rfl kz) ?_
  show Go p.tables e below P (T6.setTop (mkF m 15 #[.val (.ref aT), .val (.ref aF)] [(.ref aF)]))
  obtain ⟨T7, X7, e7, st7⟩ := getS2 X6 hx hZ hown (host := "") (Or.inl (hw _ (List.mem_of_getElem? (i := 4) rfl))) Via.refl e6 S_F_3 (g := (mkF m 15 #[.val (.ref aT), .val (.ref aF)] [(.ref aF)])) rfl (hb hby own_d4_15)
  refine Go.s (fun {t} => st7 t) ?_
  show Go p.tables e below P (T7.setTop (mkF m 18 #[.val (.ref aT), .val (.ref aF)] [(.ref aF), (.ref aF)]))
  refine Go.s (fun kz => XT.acmpNo X7.here hx rfl (hb hby own_d4_18) rfl rfl rfl (XT.aa_ne_f rfl) kz) ?_
  show Go p.tables e below P (T7.setTop (mkF m 21 #[.val (.ref aT), .val (.ref aF)] []))
  obtain ⟨T8, X8, e8, st8⟩ := getS2 X7 hx hZ hown (host := "") (Or.inl (hw _ (List.mem_of_getElem? (i := 4) rfl))) Via.refl e7 S_F_3 (g := (mkF m 21 #[.val (.ref aT), .val (.ref aF)] [])) rfl (hb hby own_d4_21)
  refine Go.s (fun {t} => st8 t) ?_
  show Go p.tables e below P (T8.setTop (mkF m 24 #[.val (.ref aT), .val (.ref aF)] [(.ref aF)]))
  exact Go.retRW X8 hx hlk hS (by rw [e8]; exact hk) hret rfl rfl (hb hby own_d4_24) (fun U hU hF => hP U _ _ (by rw [hU, e8]; exact ⟨rfl, N5, E1⟩) ⟨hF.1, hF.2.1, hF.2.2.1, hF.2.2.2.mono (by decide) (by decide)⟩)
theorem own_ef4_FT (m : MethodId) (aF : Addr) (aT : Addr) : entryFrame m #[(.ref aF), (.ref aT)] 2 = mkF m 0 #[.val (.ref aF), .val (.ref aT)] [] := by
  (first | (simp [entryFrame, mkF, argsToLocals, Value.category]; done) | rfl)
set_option maxRecDepth 65536 in
set_option maxHeartbeats 40000000 in
theorem own_rm4_FT (l : Launch) (Z : State) (a0 : Array Value) (hw : ∀ d ∈ tables_1, d.before a0 Z = true) (ws : List Jvm.Cond) (aT aF aU : Nat) (h0 : Heap) (n0 : Nat) (Z0 : n0 ≤ h0.size) (S_T : Sta Z h0 "com/example/impart/impart/Truth" "TRUE" "Lcom/example/impart/impart/Truth;" (.ref aT)) (S_F : Sta Z h0 "com/example/impart/impart/Truth" "FALSE" "Lcom/example/impart/impart/Truth;" (.ref aF)) (S_U : Sta Z h0 "com/example/impart/impart/Truth" "UNKNOWN" "Lcom/example/impart/impart/Truth;" (.ref aU)) (hTF : aT ≠ aF) (hTU : aT ≠ aU) (hFU : aF ≠ aU) :
    ConW l Z (⟨"com/example/impart/impart/Truth", "and", "(Lcom/example/impart/impart/Truth;)Lcom/example/impart/impart/Truth;"⟩ : MethodName) prog_54_method_6_code 2 (some (.object "com/example/impart/impart/Truth")) ws ({ frames := 1, cells := 2, slots := 84, locals := 13 } : Room) #[(.ref aF), (.ref aT)] h0 (fun v h L => v = some (.ref aF) ∧ Fr n0 L ∧ Ext h0 h) := by
  refine ConW.intro (plainFor_of_name own_pn_1) ?_
  intro p e s m below meth c s₁ P hx hby hml hown hnm hret hlk hZ X0 e0 hS hP
  have N0 := Fr.nil n0
  have hk := Nat.zero_le h0.size
  have hown : (s.setVm s.vm).vm.findClass "com/example/impart/impart/Truth" = some m.cls := hown
  refine Go.cast (own_ef4_FT m aF aT) ?_
  show Go p.tables e below P (s₁.setTop (mkF m 0 #[.val (.ref aF), .val (.ref aT)] []))
  refine Go.s (fun kz => XS.aloadN X0.here hx rfl (hb hby own_d4_0) rfl rfl kz) ?_
  show Go p.tables e below P (s₁.setTop (mkF m 1 #[.val (.ref aF), .val (.ref aT)] [(.ref aT)]))
  obtain ⟨b1, T1, H1, ks1, X1, e1, E1, hS, hk, hZ, hown, st1⟩ := ldcS X0 hx hZ hown (hw _ (List.mem_of_getElem? (i := 30) rfl)) (own_wS hw) e0 hS hk (g := (mkF m 1 #[.val (.ref aF), .val (.ref aT)] [(.ref aT)])) rfl (hb hby own_d4_1) (n := 80) (by decide) (by decide) (by decide) (by decide)
  refine Go.s (fun {t} => st1 t) ?_
  have S_T_2 := Sta.ext E1 S_T
  have S_F_3 := Sta.ext E1 S_F
  have S_U_4 := Sta.ext E1 S_U
  have Zs1 := Nat.le_trans Z0 E1.1
  show Go p.tables e below P (T1.setTop (mkF m 3 #[.val (.ref aF), .val (.ref aT)] [(.ref b1), (.ref aT)]))
  obtain ⟨v5, T5, L5, X5, Q5, st5⟩ := Con.static (own_rm5 l Z a0 hw [] aT b1 H1 n0 Zs1) X1 hx hZ (W := 0) hown (hw _ (List.mem_of_getElem? (i := 38) rfl)) (hw _ (List.mem_of_getElem? (i := 39) rfl)) (hw _ (List.mem_of_getElem? (i := 40) rfl)) (hw _ (List.mem_of_getElem? (i := 41) rfl)) (by decide) (by decide) (by decide) (by decide) (by decide) e1 (g := (mkF m 3 #[.val (.ref aF), .val (.ref aT)] [(.ref b1), (.ref aT)])) rfl (by rw [hml]; rfl) (argsL := [(.ref aT), (.ref b1)]) (rest := []) rfl (lenOf own_pd_1 rfl) rfl (by show 2 * 0 + _ ≤ _; exact Nat.le_of_eq rfl) (hb hby own_d4_3)
  obtain ⟨rfl, Nq5, e5⟩ := Q5
  have N5 := Fr.app N0 Nq5
  refine Go.s (fun {t} => st5) ?_
  show Go p.tables e below P (T5.setTop (mkF m 6 #[.val (.ref aF), .val (.ref aT)] [(.ref aT)]))
  refine Go.s (fun kz => XT.pop X5.here hx rfl (hb hby own_d4_6) rfl rfl kz) ?_
  show Go p.tables e below P (T5.setTop (mkF m 7 #[.val (.ref aF), .val (.ref aT)] []))
  refine Go.s (fun kz => XS.aloadN X5.here hx rfl (hb hby own_d4_7) rfl rfl kz) ?_
  show Go p.tables e below P (T5.setTop (mkF m 8 #[.val (.ref aF), .val (.ref aT)] [(.ref aF)]))
  obtain ⟨T6, X6, e6, st6⟩ := getS2 X5 hx hZ hown (host := "") (Or.inl (hw _ (List.mem_of_getElem? (i := 4) rfl))) Via.refl e5 S_F_3 (g := (mkF m 8 #[.val (.ref aF), .val (.ref aT)] [(.ref aF)])) rfl (hb hby own_d4_8)
  refine Go.s (fun {t} => st6 t) ?_
  show Go p.tables e below P (T6.setTop (mkF m 11 #[.val (.ref aF), .val (.ref aT)] [(.ref aF), (.ref aF)]))
  refine Go.s (fun kz => XT.acmpYes X6.here hx rfl (pc0 := 11) (pc' := 21) rfl (hb hby own_d4_11) rfl rfl rfl (XT.aa_eq_t rfl) (by decide) (by decide) kz) ?_
  show Go p.tables e below P (T6.setTop (mkF m 21 #[.val (.ref aF), .val (.ref aT)] []))
  obtain ⟨T7, X7, e7, st7⟩ := getS2 X6 hx hZ hown (host := "") (Or.inl (hw _ (List.mem_of_getElem? (i := 4) rfl))) Via.refl e6 S_F_3 (g := (mkF m 21 #[.val (.ref aF), .val (.ref aT)] [])) rfl (hb hby own_d4_21)
  refine Go.s (fun {t} => st7 t) ?_
  show Go p.tables e below P (T7.setTop (mkF m 24 #[.val (.ref aF), .val (.ref aT)] [(.ref aF)]))
  exact Go.retRW X7 hx hlk hS (by rw [e7]; exact hk) hret rfl rfl (hb hby own_d4_24) (fun U hU hF => hP U _ _ (by rw [hU, e7]; exact ⟨rfl, N5, E1⟩) ⟨hF.1, hF.2.1, hF.2.2.1, hF.2.2.2.mono (by decide) (by decide)⟩)
theorem own_ef4_FF (m : MethodId) (aF : Addr) : entryFrame m #[(.ref aF), (.ref aF)] 2 = mkF m 0 #[.val (.ref aF), .val (.ref aF)] [] := by
  (first | (simp [entryFrame, mkF, argsToLocals, Value.category]; done) | rfl)
set_option maxRecDepth 65536 in
set_option maxHeartbeats 40000000 in
theorem own_rm4_FF (l : Launch) (Z : State) (a0 : Array Value) (hw : ∀ d ∈ tables_1, d.before a0 Z = true) (ws : List Jvm.Cond) (aT aF aU : Nat) (h0 : Heap) (n0 : Nat) (Z0 : n0 ≤ h0.size) (S_T : Sta Z h0 "com/example/impart/impart/Truth" "TRUE" "Lcom/example/impart/impart/Truth;" (.ref aT)) (S_F : Sta Z h0 "com/example/impart/impart/Truth" "FALSE" "Lcom/example/impart/impart/Truth;" (.ref aF)) (S_U : Sta Z h0 "com/example/impart/impart/Truth" "UNKNOWN" "Lcom/example/impart/impart/Truth;" (.ref aU)) (hTF : aT ≠ aF) (hTU : aT ≠ aU) (hFU : aF ≠ aU) :
    ConW l Z (⟨"com/example/impart/impart/Truth", "and", "(Lcom/example/impart/impart/Truth;)Lcom/example/impart/impart/Truth;"⟩ : MethodName) prog_54_method_6_code 2 (some (.object "com/example/impart/impart/Truth")) ws ({ frames := 1, cells := 2, slots := 84, locals := 13 } : Room) #[(.ref aF), (.ref aF)] h0 (fun v h L => v = some (.ref aF) ∧ Fr n0 L ∧ Ext h0 h) := by
  refine ConW.intro (plainFor_of_name own_pn_1) ?_
  intro p e s m below meth c s₁ P hx hby hml hown hnm hret hlk hZ X0 e0 hS hP
  have N0 := Fr.nil n0
  have hk := Nat.zero_le h0.size
  have hown : (s.setVm s.vm).vm.findClass "com/example/impart/impart/Truth" = some m.cls := hown
  refine Go.cast (own_ef4_FF m aF) ?_
  show Go p.tables e below P (s₁.setTop (mkF m 0 #[.val (.ref aF), .val (.ref aF)] []))
  refine Go.s (fun kz => XS.aloadN X0.here hx rfl (hb hby own_d4_0) rfl rfl kz) ?_
  show Go p.tables e below P (s₁.setTop (mkF m 1 #[.val (.ref aF), .val (.ref aF)] [(.ref aF)]))
  obtain ⟨b1, T1, H1, ks1, X1, e1, E1, hS, hk, hZ, hown, st1⟩ := ldcS X0 hx hZ hown (hw _ (List.mem_of_getElem? (i := 30) rfl)) (own_wS hw) e0 hS hk (g := (mkF m 1 #[.val (.ref aF), .val (.ref aF)] [(.ref aF)])) rfl (hb hby own_d4_1) (n := 80) (by decide) (by decide) (by decide) (by decide)
  refine Go.s (fun {t} => st1 t) ?_
  have S_T_2 := Sta.ext E1 S_T
  have S_F_3 := Sta.ext E1 S_F
  have S_U_4 := Sta.ext E1 S_U
  have Zs1 := Nat.le_trans Z0 E1.1
  show Go p.tables e below P (T1.setTop (mkF m 3 #[.val (.ref aF), .val (.ref aF)] [(.ref b1), (.ref aF)]))
  obtain ⟨v5, T5, L5, X5, Q5, st5⟩ := Con.static (own_rm5 l Z a0 hw [] aF b1 H1 n0 Zs1) X1 hx hZ (W := 0) hown (hw _ (List.mem_of_getElem? (i := 38) rfl)) (hw _ (List.mem_of_getElem? (i := 39) rfl)) (hw _ (List.mem_of_getElem? (i := 40) rfl)) (hw _ (List.mem_of_getElem? (i := 41) rfl)) (by decide) (by decide) (by decide) (by decide) (by decide) e1 (g := (mkF m 3 #[.val (.ref aF), .val (.ref aF)] [(.ref b1), (.ref aF)])) rfl (by rw [hml]; rfl) (argsL := [(.ref aF), (.ref b1)]) (rest := []) rfl (lenOf own_pd_1 rfl) rfl (by show 2 * 0 + _ ≤ _; exact Nat.le_of_eq rfl) (hb hby own_d4_3)
  obtain ⟨rfl, Nq5, e5⟩ := Q5
  have N5 := Fr.app N0 Nq5
  refine Go.s (fun {t} => st5) ?_
  show Go p.tables e below P (T5.setTop (mkF m 6 #[.val (.ref aF), .val (.ref aF)] [(.ref aF)]))
  refine Go.s (fun kz => XT.pop X5.here hx rfl (hb hby own_d4_6) rfl rfl kz) ?_
  show Go p.tables e below P (T5.setTop (mkF m 7 #[.val (.ref aF), .val (.ref aF)] []))
  refine Go.s (fun kz => XS.aloadN X5.here hx rfl (hb hby own_d4_7) rfl rfl kz) ?_
  show Go p.tables e below P (T5.setTop (mkF m 8 #[.val (.ref aF), .val (.ref aF)] [(.ref aF)]))
  obtain ⟨T6, X6, e6, st6⟩ := getS2 X5 hx hZ hown (host := "") (Or.inl (hw _ (List.mem_of_getElem? (i := 4) rfl))) Via.refl e5 S_F_3 (g := (mkF m 8 #[.val (.ref aF), .val (.ref aF)] [(.ref aF)])) rfl (hb hby own_d4_8)
  refine Go.s (fun {t} => st6 t) ?_
  show Go p.tables e below P (T6.setTop (mkF m 11 #[.val (.ref aF), .val (.ref aF)] [(.ref aF), (.ref aF)]))
  refine Go.s (fun kz => XT.acmpYes X6.here hx rfl (pc0 := 11) (pc' := 21) rfl (hb hby own_d4_11) rfl rfl rfl (XT.aa_eq_t rfl) (by decide) (by decide) kz) ?_
  show Go p.tables e below P (T6.setTop (mkF m 21 #[.val (.ref aF), .val (.ref aF)] []))
  obtain ⟨T7, X7, e7, st7⟩ := getS2 X6 hx hZ hown (host := "") (Or.inl (hw _ (List.mem_of_getElem? (i := 4) rfl))) Via.refl e6 S_F_3 (g := (mkF m 21 #[.val (.ref aF), .val (.ref aF)] [])) rfl (hb hby own_d4_21)
  refine Go.s (fun {t} => st7 t) ?_
  show Go p.tables e below P (T7.setTop (mkF m 24 #[.val (.ref aF), .val (.ref aF)] [(.ref aF)]))
  exact Go.retRW X7 hx hlk hS (by rw [e7]; exact hk) hret rfl rfl (hb hby own_d4_24) (fun U hU hF => hP U _ _ (by rw [hU, e7]; exact ⟨rfl, N5, E1⟩) ⟨hF.1, hF.2.1, hF.2.2.1, hF.2.2.2.mono (by decide) (by decide)⟩)
theorem own_ef6_TT (m : MethodId) (aT : Addr) : entryFrame m #[(.ref aT), (.ref aT)] 2 = mkF m 0 #[.val (.ref aT), .val (.ref aT)] [] := by
  (first | (simp [entryFrame, mkF, argsToLocals, Value.category]; done) | rfl)
theorem own_d6_0 : decode prog_54_method_7_code 0 = .ok (.aload_n 1, 1) := by decide +kernel
theorem own_d6_1 : decode prog_54_method_7_code 1 = .ok (.ldc 41, 2) := by decide +kernel
theorem own_d6_3 : decode prog_54_method_7_code 3 = .ok (.invokestatic 43, 3) := by decide +kernel
theorem own_d6_6 : decode prog_54_method_7_code 6 = .ok (.pop, 1) := by decide +kernel
theorem own_d6_7 : decode prog_54_method_7_code 7 = .ok (.aload_n 0, 1) := by decide +kernel
theorem own_d6_8 : decode prog_54_method_7_code 8 = .ok (.getstatic 3, 3) := by decide +kernel
theorem own_d6_11 : decode prog_54_method_7_code 11 = .ok (.if_acmp .eq 10, 3) := by decide +kernel
theorem own_d6_21 : decode prog_54_method_7_code 21 = .ok (.getstatic 3, 3) := by decide +kernel
theorem own_d6_24 : decode prog_54_method_7_code 24 = .ok (.areturn, 1) := by decide +kernel
set_option maxRecDepth 65536 in
set_option maxHeartbeats 40000000 in
theorem own_rm6_TT (l : Launch) (Z : State) (a0 : Array Value) (hw : ∀ d ∈ tables_1, d.before a0 Z = true) (ws : List Jvm.Cond) (aT aF aU : Nat) (h0 : Heap) (n0 : Nat) (Z0 : n0 ≤ h0.size) (S_T : Sta Z h0 "com/example/impart/impart/Truth" "TRUE" "Lcom/example/impart/impart/Truth;" (.ref aT)) (S_F : Sta Z h0 "com/example/impart/impart/Truth" "FALSE" "Lcom/example/impart/impart/Truth;" (.ref aF)) (S_U : Sta Z h0 "com/example/impart/impart/Truth" "UNKNOWN" "Lcom/example/impart/impart/Truth;" (.ref aU)) (hTF : aT ≠ aF) (hTU : aT ≠ aU) (hFU : aF ≠ aU) :
    ConW l Z (⟨"com/example/impart/impart/Truth", "or", "(Lcom/example/impart/impart/Truth;)Lcom/example/impart/impart/Truth;"⟩ : MethodName) prog_54_method_7_code 2 (some (.object "com/example/impart/impart/Truth")) ws ({ frames := 1, cells := 2, slots := 84, locals := 13 } : Room) #[(.ref aT), (.ref aT)] h0 (fun v h L => v = some (.ref aT) ∧ Fr n0 L ∧ Ext h0 h) := by
  refine ConW.intro (plainFor_of_name own_pn_1) ?_
  intro p e s m below meth c s₁ P hx hby hml hown hnm hret hlk hZ X0 e0 hS hP
  have N0 := Fr.nil n0
  have hk := Nat.zero_le h0.size
  have hown : (s.setVm s.vm).vm.findClass "com/example/impart/impart/Truth" = some m.cls := hown
  refine Go.cast (own_ef6_TT m aT) ?_
  show Go p.tables e below P (s₁.setTop (mkF m 0 #[.val (.ref aT), .val (.ref aT)] []))
  refine Go.s (fun kz => XS.aloadN X0.here hx rfl (hb hby own_d6_0) rfl rfl kz) ?_
  show Go p.tables e below P (s₁.setTop (mkF m 1 #[.val (.ref aT), .val (.ref aT)] [(.ref aT)]))
  obtain ⟨b1, T1, H1, ks1, X1, e1, E1, hS, hk, hZ, hown, st1⟩ := ldcS X0 hx hZ hown (hw _ (List.mem_of_getElem? (i := 30) rfl)) (own_wS hw) e0 hS hk (g := (mkF m 1 #[.val (.ref aT), .val (.ref aT)] [(.ref aT)])) rfl (hb hby own_d6_1) (n := 80) (by decide) (by decide) (by decide) (by decide)
  refine Go.s (fun {t} => st1 t) ?_
  have S_T_2 := Sta.ext E1 S_T
  have S_F_3 := Sta.ext E1 S_F
  have S_U_4 := Sta.ext E1 S_U
  have Zs1 := Nat.le_trans Z0 E1.1
  show Go p.tables e below P (T1.setTop (mkF m 3 #[.val (.ref aT), .val (.ref aT)] [(.ref b1), (.ref aT)]))
  obtain ⟨v5, T5, L5, X5, Q5, st5⟩ := Con.static (own_rm5 l Z a0 hw [] aT b1 H1 n0 Zs1) X1 hx hZ (W := 0) hown (hw _ (List.mem_of_getElem? (i := 38) rfl)) (hw _ (List.mem_of_getElem? (i := 39) rfl)) (hw _ (List.mem_of_getElem? (i := 40) rfl)) (hw _ (List.mem_of_getElem? (i := 41) rfl)) (by decide) (by decide) (by decide) (by decide) (by decide) e1 (g := (mkF m 3 #[.val (.ref aT), .val (.ref aT)] [(.ref b1), (.ref aT)])) rfl (by rw [hml]; rfl) (argsL := [(.ref aT), (.ref b1)]) (rest := []) rfl (lenOf own_pd_1 rfl) rfl (by show 2 * 0 + _ ≤ _; exact Nat.le_of_eq rfl) (hb hby own_d6_3)
  obtain ⟨rfl, Nq5, e5⟩ := Q5
  have N5 := Fr.app N0 Nq5
  refine Go.s (fun {t} => st5) ?_
  show Go p.tables e below P (T5.setTop (mkF m 6 #[.val (.ref aT), .val (.ref aT)] [(.ref aT)]))
  refine Go.s (fun kz => XT.pop X5.here hx rfl (hb hby own_d6_6) rfl rfl kz) ?_
  show Go p.tables e below P (T5.setTop (mkF m 7 #[.val (.ref aT), .val (.ref aT)] []))
  refine Go.s (fun kz => XS.aloadN X5.here hx rfl (hb hby own_d6_7) rfl rfl kz) ?_
  show Go p.tables e below P (T5.setTop (mkF m 8 #[.val (.ref aT), .val (.ref aT)] [(.ref aT)]))
  obtain ⟨T6, X6, e6, st6⟩ := getS2 X5 hx hZ hown (host := "") (Or.inl (hw _ (List.mem_of_getElem? (i := 6) rfl))) Via.refl e5 S_T_2 (g := (mkF m 8 #[.val (.ref aT), .val (.ref aT)] [(.ref aT)])) rfl (hb hby own_d6_8)
  refine Go.s (fun {t} => st6 t) ?_
  show Go p.tables e below P (T6.setTop (mkF m 11 #[.val (.ref aT), .val (.ref aT)] [(.ref aT), (.ref aT)]))
  refine Go.s (fun kz => XT.acmpYes X6.here hx rfl (pc0 := 11) (pc' := 21) rfl (hb hby own_d6_11) rfl rfl rfl (XT.aa_eq_t rfl) (by decide) (by decide) kz) ?_
  show Go p.tables e below P (T6.setTop (mkF m 21 #[.val (.ref aT), .val (.ref aT)] []))
  obtain ⟨T7, X7, e7, st7⟩ := getS2 X6 hx hZ hown (host := "") (Or.inl (hw _ (List.mem_of_getElem? (i := 6) rfl))) Via.refl e6 S_T_2 (g := (mkF m 21 #[.val (.ref aT), .val (.ref aT)] [])) rfl (hb hby own_d6_21)
  refine Go.s (fun {t} => st7 t) ?_
  show Go p.tables e below P (T7.setTop (mkF m 24 #[.val (.ref aT), .val (.ref aT)] [(.ref aT)]))
  exact Go.retRW X7 hx hlk hS (by rw [e7]; exact hk) hret rfl rfl (hb hby own_d6_24) (fun U hU hF => hP U _ _ (by rw [hU, e7]; exact ⟨rfl, N5, E1⟩) ⟨hF.1, hF.2.1, hF.2.2.1, hF.2.2.2.mono (by decide) (by decide)⟩)
theorem own_ef6_TF (m : MethodId) (aT : Addr) (aF : Addr) : entryFrame m #[(.ref aT), (.ref aF)] 2 = mkF m 0 #[.val (.ref aT), .val (.ref aF)] [] := by
  (first | (simp [entryFrame, mkF, argsToLocals, Value.category]; done) | rfl)
set_option maxRecDepth 65536 in
set_option maxHeartbeats 40000000 in
theorem own_rm6_TF (l : Launch) (Z : State) (a0 : Array Value) (hw : ∀ d ∈ tables_1, d.before a0 Z = true) (ws : List Jvm.Cond) (aT aF aU : Nat) (h0 : Heap) (n0 : Nat) (Z0 : n0 ≤ h0.size) (S_T : Sta Z h0 "com/example/impart/impart/Truth" "TRUE" "Lcom/example/impart/impart/Truth;" (.ref aT)) (S_F : Sta Z h0 "com/example/impart/impart/Truth" "FALSE" "Lcom/example/impart/impart/Truth;" (.ref aF)) (S_U : Sta Z h0 "com/example/impart/impart/Truth" "UNKNOWN" "Lcom/example/impart/impart/Truth;" (.ref aU)) (hTF : aT ≠ aF) (hTU : aT ≠ aU) (hFU : aF ≠ aU) :
    ConW l Z (⟨"com/example/impart/impart/Truth", "or", "(Lcom/example/impart/impart/Truth;)Lcom/example/impart/impart/Truth;"⟩ : MethodName) prog_54_method_7_code 2 (some (.object "com/example/impart/impart/Truth")) ws ({ frames := 1, cells := 2, slots := 84, locals := 13 } : Room) #[(.ref aT), (.ref aF)] h0 (fun v h L => v = some (.ref aT) ∧ Fr n0 L ∧ Ext h0 h) := by
  refine ConW.intro (plainFor_of_name own_pn_1) ?_
  intro p e s m below meth c s₁ P hx hby hml hown hnm hret hlk hZ X0 e0 hS hP
  have N0 := Fr.nil n0
  have hk := Nat.zero_le h0.size
  have hown : (s.setVm s.vm).vm.findClass "com/example/impart/impart/Truth" = some m.cls := hown
  refine Go.cast (own_ef6_TF m aT aF) ?_
  show Go p.tables e below P (s₁.setTop (mkF m 0 #[.val (.ref aT), .val (.ref aF)] []))
  refine Go.s (fun kz => XS.aloadN X0.here hx rfl (hb hby own_d6_0) rfl rfl kz) ?_
  show Go p.tables e below P (s₁.setTop (mkF m 1 #[.val (.ref aT), .val (.ref aF)] [(.ref aF)]))
  obtain ⟨b1, T1, H1, ks1, X1, e1, E1, hS, hk, hZ, hown, st1⟩ := ldcS X0 hx hZ hown (hw _ (List.mem_of_getElem? (i := 30) rfl)) (own_wS hw) e0 hS hk (g := (mkF m 1 #[.val (.ref aT), .val (.ref aF)] [(.ref aF)])) rfl (hb hby own_d6_1) (n := 80) (by decide) (by decide) (by decide) (by decide)
  refine Go.s (fun {t} => st1 t) ?_
  have S_T_2 := Sta.ext E1 S_T
  have S_F_3 := Sta.ext E1 S_F
  have S_U_4 := Sta.ext E1 S_U
  have Zs1 := Nat.le_trans Z0 E1.1
  show Go p.tables e below P (T1.setTop (mkF m 3 #[.val (.ref aT), .val (.ref aF)] [(.ref b1), (.ref aF)]))
  obtain ⟨v5, T5, L5, X5, Q5, st5⟩ := Con.static (own_rm5 l Z a0 hw [] aF b1 H1 n0 Zs1) X1 hx hZ (W := 0) hown (hw _ (List.mem_of_getElem? (i := 38) rfl)) (hw _ (List.mem_of_getElem? (i := 39) rfl)) (hw _ (List.mem_of_getElem? (i := 40) rfl)) (hw _ (List.mem_of_getElem? (i := 41) rfl)) (by decide) (by decide) (by decide) (by decide) (by decide) e1 (g := (mkF m 3 #[.val (.ref aT), .val (.ref aF)] [(.ref b1), (.ref aF)])) rfl (by rw [hml]; rfl) (argsL := [(.ref aF), (.ref b1)]) (rest := []) rfl (lenOf own_pd_1 rfl) rfl (by show 2 * 0 + _ ≤ _; exact Nat.le_of_eq rfl) (hb hby own_d6_3)
  obtain ⟨rfl, Nq5, e5⟩ := Q5
  have N5 := Fr.app N0 Nq5
  refine Go.s (fun {t} => st5) ?_
  show Go p.tables e below P (T5.setTop (mkF m 6 #[.val (.ref aT), .val (.ref aF)] [(.ref aF)]))
  refine Go.s (fun kz => XT.pop X5.here hx rfl (hb hby own_d6_6) rfl rfl kz) ?_
  show Go p.tables e below P (T5.setTop (mkF m 7 #[.val (.ref aT), .val (.ref aF)] []))
  refine Go.s (fun kz => XS.aloadN X5.here hx rfl (hb hby own_d6_7) rfl rfl kz) ?_
  show Go p.tables e below P (T5.setTop (mkF m 8 #[.val (.ref aT), .val (.ref aF)] [(.ref aT)]))
  obtain ⟨T6, X6, e6, st6⟩ := getS2 X5 hx hZ hown (host := "") (Or.inl (hw _ (List.mem_of_getElem? (i := 6) rfl))) Via.refl e5 S_T_2 (g := (mkF m 8 #[.val (.ref aT), .val (.ref aF)] [(.ref aT)])) rfl (hb hby own_d6_8)
  refine Go.s (fun {t} => st6 t) ?_
  show Go p.tables e below P (T6.setTop (mkF m 11 #[.val (.ref aT), .val (.ref aF)] [(.ref aT), (.ref aT)]))
  refine Go.s (fun kz => XT.acmpYes X6.here hx rfl (pc0 := 11) (pc' := 21) rfl (hb hby own_d6_11) rfl rfl rfl (XT.aa_eq_t rfl) (by decide) (by decide) kz) ?_
  show Go p.tables e below P (T6.setTop (mkF m 21 #[.val (.ref aT), .val (.ref aF)] []))
  obtain ⟨T7, X7, e7, st7⟩ := getS2 X6 hx hZ hown (host := "") (Or.inl (hw _ (List.mem_of_getElem? (i := 6) rfl))) Via.refl e6 S_T_2 (g := (mkF m 21 #[.val (.ref aT), .val (.ref aF)] [])) rfl (hb hby own_d6_21)
  refine Go.s (fun {t} => st7 t) ?_
  show Go p.tables e below P (T7.setTop (mkF m 24 #[.val (.ref aT), .val (.ref aF)] [(.ref aT)]))
  exact Go.retRW X7 hx hlk hS (by rw [e7]; exact hk) hret rfl rfl (hb hby own_d6_24) (fun U hU hF => hP U _ _ (by rw [hU, e7]; exact ⟨rfl, N5, E1⟩) ⟨hF.1, hF.2.1, hF.2.2.1, hF.2.2.2.mono (by decide) (by decide)⟩)
theorem own_ef6_FT (m : MethodId) (aF : Addr) (aT : Addr) : entryFrame m #[(.ref aF), (.ref aT)] 2 = mkF m 0 #[.val (.ref aF), .val (.ref aT)] [] := by
  (first | (simp [entryFrame, mkF, argsToLocals, Value.category]; done) | rfl)
theorem own_d6_14 : decode prog_54_method_7_code 14 = .ok (.aload_n 1, 1) := by decide +kernel
theorem own_d6_15 : decode prog_54_method_7_code 15 = .ok (.getstatic 3, 3) := by decide +kernel
theorem own_d6_18 : decode prog_54_method_7_code 18 = .ok (.if_acmp .ne 7, 3) := by decide +kernel
set_option maxRecDepth 65536 in
set_option maxHeartbeats 40000000 in
theorem own_rm6_FT (l : Launch) (Z : State) (a0 : Array Value) (hw : ∀ d ∈ tables_1, d.before a0 Z = true) (ws : List Jvm.Cond) (aT aF aU : Nat) (h0 : Heap) (n0 : Nat) (Z0 : n0 ≤ h0.size) (S_T : Sta Z h0 "com/example/impart/impart/Truth" "TRUE" "Lcom/example/impart/impart/Truth;" (.ref aT)) (S_F : Sta Z h0 "com/example/impart/impart/Truth" "FALSE" "Lcom/example/impart/impart/Truth;" (.ref aF)) (S_U : Sta Z h0 "com/example/impart/impart/Truth" "UNKNOWN" "Lcom/example/impart/impart/Truth;" (.ref aU)) (hTF : aT ≠ aF) (hTU : aT ≠ aU) (hFU : aF ≠ aU) :
    ConW l Z (⟨"com/example/impart/impart/Truth", "or", "(Lcom/example/impart/impart/Truth;)Lcom/example/impart/impart/Truth;"⟩ : MethodName) prog_54_method_7_code 2 (some (.object "com/example/impart/impart/Truth")) ws ({ frames := 1, cells := 2, slots := 84, locals := 13 } : Room) #[(.ref aF), (.ref aT)] h0 (fun v h L => v = some (.ref aT) ∧ Fr n0 L ∧ Ext h0 h) := by
  refine ConW.intro (plainFor_of_name own_pn_1) ?_
  intro p e s m below meth c s₁ P hx hby hml hown hnm hret hlk hZ X0 e0 hS hP
  have N0 := Fr.nil n0
  have hk := Nat.zero_le h0.size
  have hown : (s.setVm s.vm).vm.findClass "com/example/impart/impart/Truth" = some m.cls := hown
  refine Go.cast (own_ef6_FT m aF aT) ?_
  show Go p.tables e below P (s₁.setTop (mkF m 0 #[.val (.ref aF), .val (.ref aT)] []))
  refine Go.s (fun kz => XS.aloadN X0.here hx rfl (hb hby own_d6_0) rfl rfl kz) ?_
  show Go p.tables e below P (s₁.setTop (mkF m 1 #[.val (.ref aF), .val (.ref aT)] [(.ref aT)]))
  obtain ⟨b1, T1, H1, ks1, X1, e1, E1, hS, hk, hZ, hown, st1⟩ := ldcS X0 hx hZ hown (hw _ (List.mem_of_getElem? (i := 30) rfl)) (own_wS hw) e0 hS hk (g := (mkF m 1 #[.val (.ref aF), .val (.ref aT)] [(.ref aT)])) rfl (hb hby own_d6_1) (n := 80) (by decide) (by decide) (by decide) (by decide)
  refine Go.s (fun {t} => st1 t) ?_
  have S_T_2 := Sta.ext E1 S_T
  have S_F_3 := Sta.ext E1 S_F
  have S_U_4 := Sta.ext E1 S_U
  have Zs1 := Nat.le_trans Z0 E1.1
  show Go p.tables e below P (T1.setTop (mkF m 3 #[.val (.ref aF), .val (.ref aT)] [(.ref b1), (.ref aT)]))
  obtain ⟨v5, T5, L5, X5, Q5, st5⟩ := Con.static (own_rm5 l Z a0 hw [] aT b1 H1 n0 Zs1) X1 hx hZ (W := 0) hown (hw _ (List.mem_of_getElem? (i := 38) rfl)) (hw _ (List.mem_of_getElem? (i := 39) rfl)) (hw _ (List.mem_of_getElem? (i := 40) rfl)) (hw _ (List.mem_of_getElem? (i := 41) rfl)) (by decide) (by decide) (by decide) (by decide) (by decide) e1 (g := (mkF m 3 #[.val (.ref aF), .val (.ref aT)] [(.ref b1), (.ref aT)])) rfl (by rw [hml]; rfl) (argsL := [(.ref aT), (.ref b1)]) (rest := []) rfl (lenOf own_pd_1 rfl) rfl (by show 2 * 0 + _ ≤ _; exact Nat.le_of_eq rfl) (hb hby own_d6_3)
  obtain ⟨rfl, Nq5, e5⟩ := Q5
  have N5 := Fr.app N0 Nq5
  refine Go.s (fun {t} => st5) ?_
  show Go p.tables e below P (T5.setTop (mkF m 6 #[.val (.ref aF), .val (.ref aT)] [(.ref aT)]))
  refine Go.s (fun kz => XT.pop X5.here hx rfl (hb hby own_d6_6) rfl rfl kz) ?_
  show Go p.tables e below P (T5.setTop (mkF m 7 #[.val (.ref aF), .val (.ref aT)] []))
  refine Go.s (fun kz => XS.aloadN X5.here hx rfl (hb hby own_d6_7) rfl rfl kz) ?_
  show Go p.tables e below P (T5.setTop (mkF m 8 #[.val (.ref aF), .val (.ref aT)] [(.ref aF)]))
  obtain ⟨T6, X6, e6, st6⟩ := getS2 X5 hx hZ hown (host := "") (Or.inl (hw _ (List.mem_of_getElem? (i := 6) rfl))) Via.refl e5 S_T_2 (g := (mkF m 8 #[.val (.ref aF), .val (.ref aT)] [(.ref aF)])) rfl (hb hby own_d6_8)
  refine Go.s (fun {t} => st6 t) ?_
  show Go p.tables e below P (T6.setTop (mkF m 11 #[.val (.ref aF), .val (.ref aT)] [(.ref aT), (.ref aF)]))
  refine Go.s (fun kz => XT.acmpNo X6.here hx rfl (hb hby own_d6_11) rfl rfl rfl (XT.aa_eq_f (fun q => (Ne.symm hTF) (Value.ref.inj q))) kz) ?_
  show Go p.tables e below P (T6.setTop (mkF m 14 #[.val (.ref aF), .val (.ref aT)] []))
  refine Go.s (fun kz => XS.aloadN X6.here hx rfl (hb hby own_d6_14) rfl rfl kz) ?_
  show Go p.tables e below P (T6.setTop (mkF m 15 #[.val (.ref aF), .val (.ref aT)] [(.ref aT)]))
  obtain ⟨T7, X7, e7, st7⟩ := getS2 X6 hx hZ hown (host := "") (Or.inl (hw _ (List.mem_of_getElem? (i := 6) rfl))) Via.refl e6 S_T_2 (g := (mkF m 15 #[.val (.ref aF), .val (.ref aT)] [(.ref aT)])) rfl (hb hby own_d6_15)
  refine Go.s (fun {t} => st7 t) ?_
  show Go p.tables e below P (T7.setTop (mkF m 18 #[.val (.ref aF), .val (.ref aT)] [(.ref aT), (.ref aT)]))
  refine Go.s (fun kz => XT.acmpNo X7.here hx rfl (hb hby own_d6_18) rfl rfl rfl (XT.aa_ne_f rfl) kz) ?_
  show Go p.tables e below P (T7.setTop (mkF m 21 #[.val (.ref aF), .val (.ref aT)] []))
  obtain ⟨T8, X8, e8, st8⟩ := getS2 X7 hx hZ hown (host := "") (Or.inl (hw _ (List.mem_of_getElem? (i := 6) rfl))) Via.refl e7 S_T_2 (g := (mkF m 21 #[.val (.ref aF), .val (.ref aT)] [])) rfl (hb hby own_d6_21)
  refine Go.s (fun {t} => st8 t) ?_
  show Go p.tables e below P (T8.setTop (mkF m 24 #[.val (.ref aF), .val (.ref aT)] [(.ref aT)]))
  exact Go.retRW X8 hx hlk hS (by rw [e8]; exact hk) hret rfl rfl (hb hby own_d6_24) (fun U hU hF => hP U _ _ (by rw [hU, e8]; exact ⟨rfl, N5, E1⟩) ⟨hF.1, hF.2.1, hF.2.2.1, hF.2.2.2.mono (by decide) (by decide)⟩)
theorem own_ef6_FF (m : MethodId) (aF : Addr) : entryFrame m #[(.ref aF), (.ref aF)] 2 = mkF m 0 #[.val (.ref aF), .val (.ref aF)] [] := by
  (first | (simp [entryFrame, mkF, argsToLocals, Value.category]; done) | rfl)
theorem own_d6_25 : decode prog_54_method_7_code 25 = .ok (.aload_n 0, 1) := by decide +kernel
theorem own_d6_26 : decode prog_54_method_7_code 26 = .ok (.getstatic 10, 3) := by decide +kernel
theorem own_d6_29 : decode prog_54_method_7_code 29 = .ok (.if_acmp .eq 10, 3) := by decide +kernel
theorem own_d6_32 : decode prog_54_method_7_code 32 = .ok (.aload_n 1, 1) := by decide +kernel
theorem own_d6_33 : decode prog_54_method_7_code 33 = .ok (.getstatic 10, 3) := by decide +kernel
theorem own_d6_36 : decode prog_54_method_7_code 36 = .ok (.if_acmp .ne 9, 3) := by decide +kernel
theorem own_d6_45 : decode prog_54_method_7_code 45 = .ok (.getstatic 7, 3) := by decide +kernel
theorem own_d6_48 : decode prog_54_method_7_code 48 = .ok (.areturn, 1) := by decide +kernel
set_option maxRecDepth 65536 in
set_option maxHeartbeats 40000000 in
theorem own_rm6_FF (l : Launch) (Z : State) (a0 : Array Value) (hw : ∀ d ∈ tables_1, d.before a0 Z = true) (ws : List Jvm.Cond) (aT aF aU : Nat) (h0 : Heap) (n0 : Nat) (Z0 : n0 ≤ h0.size) (S_T : Sta Z h0 "com/example/impart/impart/Truth" "TRUE" "Lcom/example/impart/impart/Truth;" (.ref aT)) (S_F : Sta Z h0 "com/example/impart/impart/Truth" "FALSE" "Lcom/example/impart/impart/Truth;" (.ref aF)) (S_U : Sta Z h0 "com/example/impart/impart/Truth" "UNKNOWN" "Lcom/example/impart/impart/Truth;" (.ref aU)) (hTF : aT ≠ aF) (hTU : aT ≠ aU) (hFU : aF ≠ aU) :
    ConW l Z (⟨"com/example/impart/impart/Truth", "or", "(Lcom/example/impart/impart/Truth;)Lcom/example/impart/impart/Truth;"⟩ : MethodName) prog_54_method_7_code 2 (some (.object "com/example/impart/impart/Truth")) ws ({ frames := 1, cells := 2, slots := 84, locals := 13 } : Room) #[(.ref aF), (.ref aF)] h0 (fun v h L => v = some (.ref aF) ∧ Fr n0 L ∧ Ext h0 h) := by
  refine ConW.intro (plainFor_of_name own_pn_1) ?_
  intro p e s m below meth c s₁ P hx hby hml hown hnm hret hlk hZ X0 e0 hS hP
  have N0 := Fr.nil n0
  have hk := Nat.zero_le h0.size
  have hown : (s.setVm s.vm).vm.findClass "com/example/impart/impart/Truth" = some m.cls := hown
  refine Go.cast (own_ef6_FF m aF) ?_
  show Go p.tables e below P (s₁.setTop (mkF m 0 #[.val (.ref aF), .val (.ref aF)] []))
  refine Go.s (fun kz => XS.aloadN X0.here hx rfl (hb hby own_d6_0) rfl rfl kz) ?_
  show Go p.tables e below P (s₁.setTop (mkF m 1 #[.val (.ref aF), .val (.ref aF)] [(.ref aF)]))
  obtain ⟨b1, T1, H1, ks1, X1, e1, E1, hS, hk, hZ, hown, st1⟩ := ldcS X0 hx hZ hown (hw _ (List.mem_of_getElem? (i := 30) rfl)) (own_wS hw) e0 hS hk (g := (mkF m 1 #[.val (.ref aF), .val (.ref aF)] [(.ref aF)])) rfl (hb hby own_d6_1) (n := 80) (by decide) (by decide) (by decide) (by decide)
  refine Go.s (fun {t} => st1 t) ?_
  have S_T_2 := Sta.ext E1 S_T
  have S_F_3 := Sta.ext E1 S_F
  have S_U_4 := Sta.ext E1 S_U
  have Zs1 := Nat.le_trans Z0 E1.1
  show Go p.tables e below P (T1.setTop (mkF m 3 #[.val (.ref aF), .val (.ref aF)] [(.ref b1), (.ref aF)]))
  obtain ⟨v5, T5, L5, X5, Q5, st5⟩ := Con.static (own_rm5 l Z a0 hw [] aF b1 H1 n0 Zs1) X1 hx hZ (W := 0) hown (hw _ (List.mem_of_getElem? (i := 38) rfl)) (hw _ (List.mem_of_getElem? (i := 39) rfl)) (hw _ (List.mem_of_getElem? (i := 40) rfl)) (hw _ (List.mem_of_getElem? (i := 41) rfl)) (by decide) (by decide) (by decide) (by decide) (by decide) e1 (g := (mkF m 3 #[.val (.ref aF), .val (.ref aF)] [(.ref b1), (.ref aF)])) rfl (by rw [hml]; rfl) (argsL := [(.ref aF), (.ref b1)]) (rest := []) rfl (lenOf own_pd_1 rfl) rfl (by show 2 * 0 + _ ≤ _; exact Nat.le_of_eq rfl) (hb hby own_d6_3)
  obtain ⟨rfl, Nq5, e5⟩ := Q5
  have N5 := Fr.app N0 Nq5
  refine Go.s (fun {t} => st5) ?_
  show Go p.tables e below P (T5.setTop (mkF m 6 #[.val (.ref aF), .val (.ref aF)] [(.ref aF)]))
  refine Go.s (fun kz => XT.pop X5.here hx rfl (hb hby own_d6_6) rfl rfl kz) ?_
  show Go p.tables e below P (T5.setTop (mkF m 7 #[.val (.ref aF), .val (.ref aF)] []))
  refine Go.s (fun kz => XS.aloadN X5.here hx rfl (hb hby own_d6_7) rfl rfl kz) ?_
  show Go p.tables e below P (T5.setTop (mkF m 8 #[.val (.ref aF), .val (.ref aF)] [(.ref aF)]))
  obtain ⟨T6, X6, e6, st6⟩ := getS2 X5 hx hZ hown (host := "") (Or.inl (hw _ (List.mem_of_getElem? (i := 6) rfl))) Via.refl e5 S_T_2 (g := (mkF m 8 #[.val (.ref aF), .val (.ref aF)] [(.ref aF)])) rfl (hb hby own_d6_8)
  refine Go.s (fun {t} => st6 t) ?_
  show Go p.tables e below P (T6.setTop (mkF m 11 #[.val (.ref aF), .val (.ref aF)] [(.ref aT), (.ref aF)]))
  refine Go.s (fun kz => XT.acmpNo X6.here hx rfl (hb hby own_d6_11) rfl rfl rfl (XT.aa_eq_f (fun q => (Ne.symm hTF) (Value.ref.inj q))) kz) ?_
  show Go p.tables e below P (T6.setTop (mkF m 14 #[.val (.ref aF), .val (.ref aF)] []))
  refine Go.s (fun kz => XS.aloadN X6.here hx rfl (hb hby own_d6_14) rfl rfl kz) ?_
  show Go p.tables e below P (T6.setTop (mkF m 15 #[.val (.ref aF), .val (.ref aF)] [(.ref aF)]))
  obtain ⟨T7, X7, e7, st7⟩ := getS2 X6 hx hZ hown (host := "") (Or.inl (hw _ (List.mem_of_getElem? (i := 6) rfl))) Via.refl e6 S_T_2 (g := (mkF m 15 #[.val (.ref aF), .val (.ref aF)] [(.ref aF)])) rfl (hb hby own_d6_15)
  refine Go.s (fun {t} => st7 t) ?_
  show Go p.tables e below P (T7.setTop (mkF m 18 #[.val (.ref aF), .val (.ref aF)] [(.ref aT), (.ref aF)]))
  refine Go.s (fun kz => XT.acmpYes X7.here hx rfl (pc0 := 18) (pc' := 25) rfl (hb hby own_d6_18) rfl rfl rfl (XT.aa_ne_t (fun q => (Ne.symm hTF) (Value.ref.inj q))) (by decide) (by decide) kz) ?_
  show Go p.tables e below P (T7.setTop (mkF m 25 #[.val (.ref aF), .val (.ref aF)] []))
  refine Go.s (fun kz => XS.aloadN X7.here hx rfl (hb hby own_d6_25) rfl rfl kz) ?_
  show Go p.tables e below P (T7.setTop (mkF m 26 #[.val (.ref aF), .val (.ref aF)] [(.ref aF)]))
  obtain ⟨T8, X8, e8, st8⟩ := getS2 X7 hx hZ hown (host := "") (Or.inl (hw _ (List.mem_of_getElem? (i := 47) rfl))) Via.refl e7 S_U_4 (g := (mkF m 26 #[.val (.ref aF), .val (.ref aF)] [(.ref aF)])) rfl (hb hby own_d6_26)
  refine Go.s (fun {t} => st8 t) ?_
  show Go p.tables e below P (T8.setTop (mkF m 29 #[.val (.ref aF), .val (.ref aF)] [(.ref aU), (.ref aF)]))
  refine Go.s (fun kz => XT.acmpNo X8.here hx rfl (hb hby own_d6_29) rfl rfl rfl (XT.aa_eq_f (fun q => hFU (Value.ref.inj q))) kz) ?_
  show Go p.tables e below P (T8.setTop (mkF m 32 #[.val (.ref aF), .val (.ref aF)] []))
  refine Go.s (fun kz => XS.aloadN X8.here hx rfl (hb hby own_d6_32) rfl rfl kz) ?_
  show Go p.tables e below P (T8.setTop (mkF m 33 #[.val (.ref aF), .val (.ref aF)] [(.ref aF)]))
  obtain ⟨T9, X9, e9, st9⟩ := getS2 X8 hx hZ hown (host := "") (Or.inl (hw _ (List.mem_of_getElem? (i := 47) rfl))) Via.refl e8 S_U_4 (g := (mkF m 33 #[.val (.ref aF), .val (.ref aF)] [(.ref aF)])) rfl (hb hby own_d6_33)
  refine Go.s (fun {t} => st9 t) ?_
  show Go p.tables e below P (T9.setTop (mkF m 36 #[.val (.ref aF), .val (.ref aF)] [(.ref aU), (.ref aF)]))
  refine Go.s (fun kz => XT.acmpYes X9.here hx rfl (pc0 := 36) (pc' := 45) rfl (hb hby own_d6_36) rfl rfl rfl (XT.aa_ne_t (fun q => hFU (Value.ref.inj q))) (by decide) (by decide) kz) ?_
  show Go p.tables e below P (T9.setTop (mkF m 45 #[.val (.ref aF), .val (.ref aF)] []))
  obtain ⟨T10, X10, e10, st10⟩ := getS2 X9 hx hZ hown (host := "") (Or.inl (hw _ (List.mem_of_getElem? (i := 4) rfl))) Via.refl e9 S_F_3 (g := (mkF m 45 #[.val (.ref aF), .val (.ref aF)] [])) rfl (hb hby own_d6_45)
  refine Go.s (fun {t} => st10 t) ?_
  show Go p.tables e below P (T10.setTop (mkF m 48 #[.val (.ref aF), .val (.ref aF)] [(.ref aF)]))
  exact Go.retRW X10 hx hlk hS (by rw [e10]; exact hk) hret rfl rfl (hb hby own_d6_48) (fun U hU hF => hP U _ _ (by rw [hU, e10]; exact ⟨rfl, N5, E1⟩) ⟨hF.1, hF.2.1, hF.2.2.1, hF.2.2.2.mono (by decide) (by decide)⟩)
theorem own_ef0 (m : MethodId) (p0 : Int32) (p1 : Int32) : entryFrame m #[(.int p0), (.int p1)] maxLocals = mkF m 0 #[.val (.int p0), .val (.int p1), .unset, .unset, .unset, .unset] [] := by
  (first | (simp [entryFrame, mkF, argsToLocals, Value.category, maxLocals]; done) | rfl)
theorem own_pn_3 : plainName "com/example/impart/impart/TruthOfPinLaw" = true := by first | (simp [plainName, overriddenIn]; done) | decide +kernel
theorem own_pd_2 : parseMethodDescriptor "(Z)Lcom/example/impart/impart/Truth;" = some ⟨[.boolean], some (.object "com/example/impart/impart/Truth")⟩ := by decide +kernel
theorem own_pd_3 : parseMethodDescriptor "()Lcom/example/impart/impart/Truth;" = some ⟨[], some (.object "com/example/impart/impart/Truth")⟩ := by decide +kernel
theorem own_pd_4 : parseMethodDescriptor "(Lcom/example/impart/impart/Truth;)Lcom/example/impart/impart/Truth;" = some ⟨[(.object "com/example/impart/impart/Truth")], some (.object "com/example/impart/impart/Truth")⟩ := by decide +kernel
set_option maxRecDepth 65536 in
set_option maxHeartbeats 40000000 in
theorem own_rm0 (l : Launch) (Z : State) (a0 : Array Value) (hw : ∀ d ∈ tables_1, d.before a0 Z = true) (ws : List Jvm.Cond) (p0 : Int32) (p1 : Int32) (aT aF aU : Nat) (h0 : Heap) (n0 : Nat) (Z0 : n0 ≤ h0.size) (S_T : Sta Z h0 "com/example/impart/impart/Truth" "TRUE" "Lcom/example/impart/impart/Truth;" (.ref aT)) (S_F : Sta Z h0 "com/example/impart/impart/Truth" "FALSE" "Lcom/example/impart/impart/Truth;" (.ref aF)) (S_U : Sta Z h0 "com/example/impart/impart/Truth" "UNKNOWN" "Lcom/example/impart/impart/Truth;" (.ref aU)) (hTF : aT ≠ aF) (hTU : aT ≠ aU) (hFU : aF ≠ aU) (E_T : Exa Z h0 aT "com/example/impart/impart/Truth") (F_T : Fld Z h0 aT "java/lang/Enum" "ordinal" "I" (.int (0 : Int32))) (E_F : Exa Z h0 aF "com/example/impart/impart/Truth") (F_F : Fld Z h0 aF "java/lang/Enum" "ordinal" "I" (.int (1 : Int32))) :
    ConW l Z x code maxLocals ret ws room_1 #[(.int p0), (.int p1)] h0 (fun v h L => v = some (.int 1) ∧ Fr n0 L) := by
  refine ConW.intro (plainFor_of_name own_pn_3) ?_
  intro p e s m below meth c s₁ P hx hby hml hown hnm hret hlk hZ X0 e0 hS hP
  have N0 := Fr.nil n0
  have hk := Nat.zero_le h0.size
  have hml : c.maxLocals = 6 := hml
  have hown : (s.setVm s.vm).vm.findClass "com/example/impart/impart/TruthOfPinLaw" = some m.cls := hown
  have hret : meth.sig.returnType = some .boolean := hret
  refine Go.cast (own_ef0 m p0 p1) ?_
  show Go p.tables e below P (s₁.setTop (mkF m 0 #[.val (.int p0), .val (.int p1), .unset, .unset, .unset, .unset] []))
  refine Go.s (fun kz => XS.iloadN X0.here hx rfl (hb hby at_0) rfl kz) ?_
  refine Go.s (fun kz => XS.iconst X0.here hx rfl (hb hby at_1) kz) ?_
  refine Go.s (fun kz => XS.iand X0.here hx rfl (hb hby at_2) rfl kz) ?_
  show Go p.tables e below P (s₁.setTop (mkF m 3 #[.val (.int p0), .val (.int p1), .unset, .unset, .unset, .unset] [(.int (p0 &&& (1 : Int32)))]))
  by_cases hc3 : (p0 &&& (1 : Int32)) = 0
  · skip
    refine Go.s (fun kz => XS.ifYes X0.here hx rfl (pc0 := 3) (pc' := 10) rfl (hb hby at_3) rfl (XT.i0_eq_t hc3) (by decide) (by decide) kz) ?_
    show Go p.tables e below P (s₁.setTop (mkF m 10 #[.val (.int p0), .val (.int p1), .unset, .unset, .unset, .unset] []))
    refine Go.s (fun kz => XS.iconst X0.here hx rfl (hb hby at_10) kz) ?_
    refine Go.s (fun kz => XS.istoreN X0.here hx rfl (hb hby at_11) rfl (l' := #[.val (.int p0), .val (.int p1), .val (.int (0 : Int32)), .unset, .unset, .unset]) rfl kz) ?_
    refine Go.s (fun kz => XS.iloadN X0.here hx rfl (hb hby at_12) rfl kz) ?_
    refine Go.s (fun kz => XS.iconst X0.here hx rfl (hb hby at_13) kz) ?_
    refine Go.s (fun kz => XS.iand X0.here hx rfl (hb hby at_14) rfl kz) ?_
    show Go p.tables e below P (s₁.setTop (mkF m 15 #[.val (.int p0), .val (.int p1), .val (.int (0 : Int32)), .unset, .unset, .unset] [(.int (p1 &&& (1 : Int32)))]))
    by_cases hc15 : (p1 &&& (1 : Int32)) = 0
    · skip
      refine Go.s (fun kz => XS.ifYes X0.here hx rfl (pc0 := 15) (pc' := 22) rfl (hb hby at_15) rfl (XT.i0_eq_t hc15) (by decide) (by decide) kz) ?_
      show Go p.tables e below P (s₁.setTop (mkF m 22 #[.val (.int p0), .val (.int p1), .val (.int (0 : Int32)), .unset, .unset, .unset] []))
      refine Go.s (fun kz => XS.iconst X0.here hx rfl (hb hby at_22) kz) ?_
      refine Go.s (fun kz => XS.istoreN X0.here hx rfl (hb hby at_23) rfl (l' := #[.val (.int p0), .val (.int p1), .val (.int (0 : Int32)), .val (.int (0 : Int32)), .unset, .unset]) rfl kz) ?_
      refine Go.s (fun kz => XS.iloadN X0.here hx rfl (hb hby at_24) rfl kz) ?_
      show Go p.tables e below P (s₁.setTop (mkF m 25 #[.val (.int p0), .val (.int p1), .val (.int (0 : Int32)), .val (.int (0 : Int32)), .unset, .unset] [(.int (0 : Int32))]))
      obtain ⟨v1, T1, L1, X1, Q1, st1⟩ := Con.static (own_rm1_0 l Z a0 hw [] aF h0 n0 Z0 S_F) X0 hx hZ (W := 0) hown (hw _ (List.mem_of_getElem? (i := 0) rfl)) (hw _ (List.mem_of_getElem? (i := 1) rfl)) (hw _ (List.mem_of_getElem? (i := 2) rfl)) (hw _ (List.mem_of_getElem? (i := 3) rfl)) (by decide) (by decide) (by decide) (by decide) (by decide) e0 (g := (mkF m 25 #[.val (.int p0), .val (.int p1), .val (.int (0 : Int32)), .val (.int (0 : Int32)), .unset, .unset] [(.int (0 : Int32))])) rfl (by rw [hml]; rfl) (argsL := [(.int (0 : Int32))]) (rest := []) rfl (lenOf own_pd_2 rfl) rfl (by show 2 * 0 + _ ≤ _; exact Nat.le_of_eq rfl) (hb hby at_25)
      obtain ⟨rfl, Nq1, e1⟩ := Q1
      have N1 := Fr.app N0 Nq1
      refine Go.s (fun {t} => st1) ?_
      refine Go.s (fun kz => XS.astore X1.here hx rfl (hb hby at_28) rfl rfl (l' := #[.val (.int p0), .val (.int p1), .val (.int (0 : Int32)), .val (.int (0 : Int32)), .val (.ref aF), .unset]) rfl kz) ?_
      refine Go.s (fun kz => XS.iloadN X1.here hx rfl (hb hby at_30) rfl kz) ?_
      show Go p.tables e below P (T1.setTop (mkF m 31 #[.val (.int p0), .val (.int p1), .val (.int (0 : Int32)), .val (.int (0 : Int32)), .val (.ref aF), .unset] [(.int (0 : Int32))]))
      obtain ⟨v2, T2, L2, X2, Q2, st2⟩ := Con.static (own_rm1_0 l Z a0 hw [] aF h0 n0 Z0 S_F) X1 hx hZ (W := 0) hown (hw _ (List.mem_of_getElem? (i := 0) rfl)) (hw _ (List.mem_of_getElem? (i := 1) rfl)) (hw _ (List.mem_of_getElem? (i := 2) rfl)) (hw _ (List.mem_of_getElem? (i := 3) rfl)) (by decide) (by decide) (by decide) (by decide) (by decide) e1 (g := (mkF m 31 #[.val (.int p0), .val (.int p1), .val (.int (0 : Int32)), .val (.int (0 : Int32)), .val (.ref aF), .unset] [(.int (0 : Int32))])) rfl (by rw [hml]; rfl) (argsL := [(.int (0 : Int32))]) (rest := []) rfl (lenOf own_pd_2 rfl) rfl (by show 2 * 0 + _ ≤ _; exact Nat.le_of_eq rfl) (hb hby at_31)
      obtain ⟨rfl, Nq2, e2⟩ := Q2
      have N2 := Fr.app N1 Nq2
      refine Go.s (fun {t} => st2) ?_
      refine Go.s (fun kz => XS.astore X2.here hx rfl (hb hby at_34) rfl rfl (l' := #[.val (.int p0), .val (.int p1), .val (.int (0 : Int32)), .val (.int (0 : Int32)), .val (.ref aF), .val (.ref aF)]) rfl kz) ?_
      refine Go.s (fun kz => XS.aload X2.here hx rfl (hb hby at_36) rfl rfl kz) ?_
      show Go p.tables e below P (T2.setTop (mkF m 38 #[.val (.int p0), .val (.int p1), .val (.int (0 : Int32)), .val (.int (0 : Int32)), .val (.ref aF), .val (.ref aF)] [(.ref aF)]))
      refine Go.s (fun kz => XS.ifnullNo X2.here hx rfl (hb hby at_38) rfl kz) ?_
      show Go p.tables e below P (T2.setTop (mkF m 41 #[.val (.int p0), .val (.int p1), .val (.int (0 : Int32)), .val (.int (0 : Int32)), .val (.ref aF), .val (.ref aF)] []))
      refine Go.s (fun kz => XS.aload X2.here hx rfl (hb hby at_41) rfl rfl kz) ?_
      show Go p.tables e below P (T2.setTop (mkF m 43 #[.val (.int p0), .val (.int p1), .val (.int (0 : Int32)), .val (.int (0 : Int32)), .val (.ref aF), .val (.ref aF)] [(.ref aF)]))
      refine Go.s (fun kz => XT.ifnonnullYes X2.here hx rfl (pc0 := 43) (pc' := 48) rfl (hb hby at_43) rfl (by decide) (by decide) kz) ?_
      show Go p.tables e below P (T2.setTop (mkF m 48 #[.val (.int p0), .val (.int p1), .val (.int (0 : Int32)), .val (.int (0 : Int32)), .val (.ref aF), .val (.ref aF)] []))
      refine Go.s (fun kz => XS.aload X2.here hx rfl (hb hby at_48) rfl rfl kz) ?_
      show Go p.tables e below P (T2.setTop (mkF m 50 #[.val (.int p0), .val (.int p1), .val (.int (0 : Int32)), .val (.int (0 : Int32)), .val (.ref aF), .val (.ref aF)] [(.ref aF)]))
      obtain ⟨T3, X3, e3, st3⟩ := getS2 X2 hx hZ hown (host := "") (Or.inl (hw _ (List.mem_of_getElem? (i := 8) rfl))) Via.refl e2 S_U (g := (mkF m 50 #[.val (.int p0), .val (.int p1), .val (.int (0 : Int32)), .val (.int (0 : Int32)), .val (.ref aF), .val (.ref aF)] [(.ref aF)])) rfl (hb hby at_50)
      refine Go.s (fun {t} => st3 t) ?_
      show Go p.tables e below P (T3.setTop (mkF m 53 #[.val (.int p0), .val (.int p1), .val (.int (0 : Int32)), .val (.int (0 : Int32)), .val (.ref aF), .val (.ref aF)] [(.ref aU), (.ref aF)]))
      refine Go.s (fun kz => XT.acmpNo X3.here hx rfl (hb hby at_53) rfl rfl rfl (XT.aa_eq_f (fun q => hFU (Value.ref.inj q))) kz) ?_
      show Go p.tables e below P (T3.setTop (mkF m 56 #[.val (.int p0), .val (.int p1), .val (.int (0 : Int32)), .val (.int (0 : Int32)), .val (.ref aF), .val (.ref aF)] []))
      refine Go.s (fun kz => XS.aload X3.here hx rfl (hb hby at_56) rfl rfl kz) ?_
      show Go p.tables e below P (T3.setTop (mkF m 58 #[.val (.int p0), .val (.int p1), .val (.int (0 : Int32)), .val (.int (0 : Int32)), .val (.ref aF), .val (.ref aF)] [(.ref aF)]))
      obtain ⟨T4, X4, e4, st4⟩ := getS2 X3 hx hZ hown (host := "") (Or.inl (hw _ (List.mem_of_getElem? (i := 8) rfl))) Via.refl e3 S_U (g := (mkF m 58 #[.val (.int p0), .val (.int p1), .val (.int (0 : Int32)), .val (.int (0 : Int32)), .val (.ref aF), .val (.ref aF)] [(.ref aF)])) rfl (hb hby at_58)
      refine Go.s (fun {t} => st4 t) ?_
      show Go p.tables e below P (T4.setTop (mkF m 61 #[.val (.int p0), .val (.int p1), .val (.int (0 : Int32)), .val (.int (0 : Int32)), .val (.ref aF), .val (.ref aF)] [(.ref aU), (.ref aF)]))
      refine Go.s (fun kz => XT.acmpYes X4.here hx rfl (pc0 := 61) (pc' := 66) rfl (hb hby at_61) rfl rfl rfl (XT.aa_ne_t (fun q => hFU (Value.ref.inj q))) (by decide) (by decide) kz) ?_
      show Go p.tables e below P (T4.setTop (mkF m 66 #[.val (.int p0), .val (.int p1), .val (.int (0 : Int32)), .val (.int (0 : Int32)), .val (.ref aF), .val (.ref aF)] []))
      refine Go.s (fun kz => XS.aload X4.here hx rfl (hb hby at_66) rfl rfl kz) ?_
      show Go p.tables e below P (T4.setTop (mkF m 68 #[.val (.int p0), .val (.int p1), .val (.int (0 : Int32)), .val (.int (0 : Int32)), .val (.ref aF), .val (.ref aF)] [(.ref aF)]))
      obtain ⟨T5, X5, e5, st5⟩ := getS2 X4 hx hZ hown (host := "") (Or.inl (hw _ (List.mem_of_getElem? (i := 10) rfl))) Via.refl e4 S_T (g := (mkF m 68 #[.val (.int p0), .val (.int p1), .val (.int (0 : Int32)), .val (.int (0 : Int32)), .val (.ref aF), .val (.ref aF)] [(.ref aF)])) rfl (hb hby at_68)
      refine Go.s (fun {t} => st5 t) ?_
      show Go p.tables e below P (T5.setTop (mkF m 71 #[.val (.int p0), .val (.int p1), .val (.int (0 : Int32)), .val (.int (0 : Int32)), .val (.ref aF), .val (.ref aF)] [(.ref aT), (.ref aF)]))
      refine Go.s (fun kz => XT.acmpYes X5.here hx rfl (pc0 := 71) (pc' := 78) rfl (hb hby at_71) rfl rfl rfl (XT.aa_ne_t (fun q => (Ne.symm hTF) (Value.ref.inj q))) (by decide) (by decide) kz) ?_
      show Go p.tables e below P (T5.setTop (mkF m 78 #[.val (.int p0), .val (.int p1), .val (.int (0 : Int32)), .val (.int (0 : Int32)), .val (.ref aF), .val (.ref aF)] []))
      refine Go.s (fun kz => XS.iconst X5.here hx rfl (hb hby at_78) kz) ?_
      refine Go.s (fun kz => XS.iloadN X5.here hx rfl (hb hby at_79) rfl kz) ?_
      show Go p.tables e below P (T5.setTop (mkF m 80 #[.val (.int p0), .val (.int p1), .val (.int (0 : Int32)), .val (.int (0 : Int32)), .val (.ref aF), .val (.ref aF)] [(.int (0 : Int32)), (.int (0 : Int32))]))
      refine Go.s (fun kz => XS.icmpYes X5.here hx rfl (pc0 := 80) (pc' := 85) rfl (hb hby at_80) rfl (XT.ii_eq_t (by decide)) (by decide) (by decide) kz) ?_
      show Go p.tables e below P (T5.setTop (mkF m 85 #[.val (.int p0), .val (.int p1), .val (.int (0 : Int32)), .val (.int (0 : Int32)), .val (.ref aF), .val (.ref aF)] []))
      refine Go.s (fun kz => XS.aload X5.here hx rfl (hb hby at_85) rfl rfl kz) ?_
      show Go p.tables e below P (T5.setTop (mkF m 87 #[.val (.int p0), .val (.int p1), .val (.int (0 : Int32)), .val (.int (0 : Int32)), .val (.ref aF), .val (.ref aF)] [(.ref aF)]))
      obtain ⟨T6, X6, e6, st6⟩ := getS2 X5 hx hZ hown (host := "") (Or.inl (hw _ (List.mem_of_getElem? (i := 10) rfl))) Via.refl e5 S_T (g := (mkF m 87 #[.val (.int p0), .val (.int p1), .val (.int (0 : Int32)), .val (.int (0 : Int32)), .val (.ref aF), .val (.ref aF)] [(.ref aF)])) rfl (hb hby at_87)
      refine Go.s (fun {t} => st6 t) ?_
      show Go p.tables e below P (T6.setTop (mkF m 90 #[.val (.int p0), .val (.int p1), .val (.int (0 : Int32)), .val (.int (0 : Int32)), .val (.ref aF), .val (.ref aF)] [(.ref aT), (.ref aF)]))
      refine Go.s (fun kz => XT.acmpYes X6.here hx rfl (pc0 := 90) (pc' := 97) rfl (hb hby at_90) rfl rfl rfl (XT.aa_ne_t (fun q => (Ne.symm hTF) (Value.ref.inj q))) (by decide) (by decide) kz) ?_
      show Go p.tables e below P (T6.setTop (mkF m 97 #[.val (.int p0), .val (.int p1), .val (.int (0 : Int32)), .val (.int (0 : Int32)), .val (.ref aF), .val (.ref aF)] []))
      refine Go.s (fun kz => XS.iconst X6.here hx rfl (hb hby at_97) kz) ?_
      refine Go.s (fun kz => XS.iloadN X6.here hx rfl (hb hby at_98) rfl kz) ?_
      show Go p.tables e below P (T6.setTop (mkF m 99 #[.val (.int p0), .val (.int p1), .val (.int (0 : Int32)), .val (.int (0 : Int32)), .val (.ref aF), .val (.ref aF)] [(.int (0 : Int32)), (.int (0 : Int32))]))
      refine Go.s (fun kz => XS.icmpYes X6.here hx rfl (pc0 := 99) (pc' := 104) rfl (hb hby at_99) rfl (XT.ii_eq_t (by decide)) (by decide) (by decide) kz) ?_
      show Go p.tables e below P (T6.setTop (mkF m 104 #[.val (.int p0), .val (.int p1), .val (.int (0 : Int32)), .val (.int (0 : Int32)), .val (.ref aF), .val (.ref aF)] []))
      refine Go.s (fun kz => XS.aload X6.here hx rfl (hb hby at_104) rfl rfl kz) ?_
      show Go p.tables e below P (T6.setTop (mkF m 106 #[.val (.int p0), .val (.int p1), .val (.int (0 : Int32)), .val (.int (0 : Int32)), .val (.ref aF), .val (.ref aF)] [(.ref aF)]))
      obtain ⟨v7, T7, L7, X7, Q7, st7⟩ := Con.virtual (own_rm2_F l Z a0 hw [] aT aF h0 n0 Z0 S_T E_F F_F) X6 hx hZ (W := 0) hown (hw _ (List.mem_of_getElem? (i := 11) rfl)) (hw _ (List.mem_of_getElem? (i := 12) rfl)) (hw _ (List.mem_of_getElem? (i := 14) rfl)) (hw _ (List.mem_of_getElem? (i := 13) rfl)) (hw _ (List.mem_of_getElem? (i := 2) rfl)) (hw _ (List.mem_of_getElem? (i := 15) rfl)) (by decide) (by decide) (by decide) (by decide) (by decide) e6 (g := (mkF m 106 #[.val (.int p0), .val (.int p1), .val (.int (0 : Int32)), .val (.int (0 : Int32)), .val (.ref aF), .val (.ref aF)] [(.ref aF)])) rfl (by rw [hml]; rfl) E_F (argsL := []) (rest := []) rfl (lenOf own_pd_3 rfl) rfl (by show 2 * 0 + _ ≤ _; exact Nat.le_of_eq rfl) (hb hby at_106)
      obtain ⟨rfl, Nq7, e7⟩ := Q7
      have N7 := Fr.app N2 Nq7
      refine Go.s (fun {t} => st7) ?_
      refine Go.s (fun kz => XS.iloadN X7.here hx rfl (hb hby at_109) rfl kz) ?_
      show Go p.tables e below P (T7.setTop (mkF m 110 #[.val (.int p0), .val (.int p1), .val (.int (0 : Int32)), .val (.int (0 : Int32)), .val (.ref aF), .val (.ref aF)] [(.int (0 : Int32)), (.ref aT)]))
      refine Go.s (fun kz => XS.ifNo X7.here hx rfl (hb hby at_110) rfl (XT.i0_ne_f (by decide)) kz) ?_
      show Go p.tables e below P (T7.setTop (mkF m 113 #[.val (.int p0), .val (.int p1), .val (.int (0 : Int32)), .val (.int (0 : Int32)), .val (.ref aF), .val (.ref aF)] [(.ref aT)]))
      refine Go.s (fun kz => XS.iconst X7.here hx rfl (hb hby at_113) kz) ?_
      refine Go.s (fun kz => XS.goto X7.here hx rfl (pc0 := 114) (pc' := 118) rfl (hb hby at_114) (by decide) (by decide) kz) ?_
      show Go p.tables e below P (T7.setTop (mkF m 118 #[.val (.int p0), .val (.int p1), .val (.int (0 : Int32)), .val (.int (0 : Int32)), .val (.ref aF), .val (.ref aF)] [(.int (1 : Int32)), (.ref aT)]))
      obtain ⟨v8, T8, L8, X8, Q8, st8⟩ := Con.static (own_rm1_1 l Z a0 hw [] aT h0 n0 Z0 S_T) X7 hx hZ (W := 1) hown (hw _ (List.mem_of_getElem? (i := 0) rfl)) (hw _ (List.mem_of_getElem? (i := 1) rfl)) (hw _ (List.mem_of_getElem? (i := 2) rfl)) (hw _ (List.mem_of_getElem? (i := 3) rfl)) (by decide) (by decide) (by decide) (by decide) (by decide) e7 (g := (mkF m 118 #[.val (.int p0), .val (.int p1), .val (.int (0 : Int32)), .val (.int (0 : Int32)), .val (.ref aF), .val (.ref aF)] [(.int (1 : Int32)), (.ref aT)])) rfl (by rw [hml]; rfl) (argsL := [(.int (1 : Int32))]) (rest := [(.ref aT)]) rfl (lenOf own_pd_2 rfl) rfl (by show 2 * 0 + _ ≤ _; exact Nat.le_of_eq rfl) (hb hby at_118)
      obtain ⟨rfl, Nq8, e8⟩ := Q8
      have N8 := Fr.app N7 Nq8
      refine Go.s (fun {t} => st8) ?_
      show Go p.tables e below P (T8.setTop (mkF m 121 #[.val (.int p0), .val (.int p1), .val (.int (0 : Int32)), .val (.int (0 : Int32)), .val (.ref aF), .val (.ref aF)] [(.ref aT), (.ref aT)]))
      refine Go.s (fun kz => XT.acmpYes X8.here hx rfl (pc0 := 121) (pc' := 126) rfl (hb hby at_121) rfl rfl rfl (XT.aa_eq_t rfl) (by decide) (by decide) kz) ?_
      show Go p.tables e below P (T8.setTop (mkF m 126 #[.val (.int p0), .val (.int p1), .val (.int (0 : Int32)), .val (.int (0 : Int32)), .val (.ref aF), .val (.ref aF)] []))
      refine Go.s (fun kz => XS.aload X8.here hx rfl (hb hby at_126) rfl rfl kz) ?_
      refine Go.s (fun kz => XS.aload X8.here hx rfl (hb hby at_128) rfl rfl kz) ?_
      show Go p.tables e below P (T8.setTop (mkF m 130 #[.val (.int p0), .val (.int p1), .val (.int (0 : Int32)), .val (.int (0 : Int32)), .val (.ref aF), .val (.ref aF)] [(.ref aF), (.ref aF)]))
      obtain ⟨v9, T9, L9, X9, Q9, hS, hZ, hown, st9⟩ := ConW.virtual (own_rm4_FF l Z a0 hw [] aT aF aU h0 n0 Z0 S_T S_F S_U hTF hTU hFU) X8 hx hZ (W := 0) hown hS hk (hw _ (List.mem_of_getElem? (i := 25) rfl)) (hw _ (List.mem_of_getElem? (i := 26) rfl)) (hw _ (List.mem_of_getElem? (i := 28) rfl)) (hw _ (List.mem_of_getElem? (i := 27) rfl)) (hw _ (List.mem_of_getElem? (i := 2) rfl)) (hw _ (List.mem_of_getElem? (i := 29) rfl)) (by decide) (by decide) (by decide) (by decide) (by decide) e8 (g := (mkF m 130 #[.val (.int p0), .val (.int p1), .val (.int (0 : Int32)), .val (.int (0 : Int32)), .val (.ref aF), .val (.ref aF)] [(.ref aF), (.ref aF)])) rfl (by rw [hml]; rfl) E_F (argsL := [(.ref aF)]) (rest := []) rfl (lenOf own_pd_4 rfl) rfl (by show 2 * 0 + _ ≤ _; exact Nat.le_of_eq rfl) (hb hby at_130)
      obtain ⟨H9, e9⟩ : ∃ z, T9.heap = z := ⟨_, rfl⟩
      rw [e9] at Q9
      obtain ⟨rfl, Nq9, Eq9⟩ := Q9
      have N9 := Fr.app N8 Nq9
      have Zs9 := Nat.le_trans Z0 Eq9.1
      have hk : T9.heap.size ≤ H9.size := by rw [e9]; exact Nat.le_refl _
      have S_T_10 := Sta.ext Eq9 S_T
      have S_F_11 := Sta.ext Eq9 S_F
      have S_U_12 := Sta.ext Eq9 S_U
      have E_T_13 := Exa.ext Eq9 E_T
      have F_T_14 := Fld.ext Eq9 F_T
      have E_F_15 := Exa.ext Eq9 E_F
      have F_F_16 := Fld.ext Eq9 F_F
      refine Go.s (fun {t} => st9) ?_
      refine Go.s (fun kz => XS.iloadN X9.here hx rfl (hb hby at_133) rfl kz) ?_
      show Go p.tables e below P (T9.setTop (mkF m 134 #[.val (.int p0), .val (.int p1), .val (.int (0 : Int32)), .val (.int (0 : Int32)), .val (.ref aF), .val (.ref aF)] [(.int (0 : Int32)), (.ref aF)]))
      refine Go.s (fun kz => XS.ifYes X9.here hx rfl (pc0 := 134) (pc' := 145) rfl (hb hby at_134) rfl (XT.i0_eq_t (by decide)) (by decide) (by decide) kz) ?_
      show Go p.tables e below P (T9.setTop (mkF m 145 #[.val (.int p0), .val (.int p1), .val (.int (0 : Int32)), .val (.int (0 : Int32)), .val (.ref aF), .val (.ref aF)] [(.ref aF)]))
      refine Go.s (fun kz => XS.iconst X9.here hx rfl (hb hby at_145) kz) ?_
      show Go p.tables e below P (T9.setTop (mkF m 146 #[.val (.int p0), .val (.int p1), .val (.int (0 : Int32)), .val (.int (0 : Int32)), .val (.ref aF), .val (.ref aF)] [(.int (0 : Int32)), (.ref aF)]))
      obtain ⟨v17, T17, L17, X17, Q17, st17⟩ := Con.static (own_rm1_0 l Z a0 hw [] aF H9 n0 Zs9 S_F_11) X9 hx hZ (W := 1) hown (hw _ (List.mem_of_getElem? (i := 0) rfl)) (hw _ (List.mem_of_getElem? (i := 1) rfl)) (hw _ (List.mem_of_getElem? (i := 2) rfl)) (hw _ (List.mem_of_getElem? (i := 3) rfl)) (by decide) (by decide) (by decide) (by decide) (by decide) e9 (g := (mkF m 146 #[.val (.int p0), .val (.int p1), .val (.int (0 : Int32)), .val (.int (0 : Int32)), .val (.ref aF), .val (.ref aF)] [(.int (0 : Int32)), (.ref aF)])) rfl (by rw [hml]; rfl) (argsL := [(.int (0 : Int32))]) (rest := [(.ref aF)]) rfl (lenOf own_pd_2 rfl) rfl (by show 2 * 0 + _ ≤ _; exact Nat.le_of_eq rfl) (hb hby at_146)
      obtain ⟨rfl, Nq17, e17⟩ := Q17
      have N17 := Fr.app N9 Nq17
      refine Go.s (fun {t} => st17) ?_
      show Go p.tables e below P (T17.setTop (mkF m 149 #[.val (.int p0), .val (.int p1), .val (.int (0 : Int32)), .val (.int (0 : Int32)), .val (.ref aF), .val (.ref aF)] [(.ref aF), (.ref aF)]))
      refine Go.s (fun kz => XT.acmpYes X17.here hx rfl (pc0 := 149) (pc' := 154) rfl (hb hby at_149) rfl rfl rfl (XT.aa_eq_t rfl) (by decide) (by decide) kz) ?_
      show Go p.tables e below P (T17.setTop (mkF m 154 #[.val (.int p0), .val (.int p1), .val (.int (0 : Int32)), .val (.int (0 : Int32)), .val (.ref aF), .val (.ref aF)] []))
      refine Go.s (fun kz => XS.aload X17.here hx rfl (hb hby at_154) rfl rfl kz) ?_
      refine Go.s (fun kz => XS.aload X17.here hx rfl (hb hby at_156) rfl rfl kz) ?_
      show Go p.tables e below P (T17.setTop (mkF m 158 #[.val (.int p0), .val (.int p1), .val (.int (0 : Int32)), .val (.int (0 : Int32)), .val (.ref aF), .val (.ref aF)] [(.ref aF), (.ref aF)]))
      obtain ⟨v18, T18, L18, X18, Q18, hS, hZ, hown, st18⟩ := ConW.virtual (own_rm6_FF l Z a0 hw [] aT aF aU H9 n0 Zs9 S_T_10 S_F_11 S_U_12 hTF hTU hFU) X17 hx hZ (W := 0) hown hS hk (hw _ (List.mem_of_getElem? (i := 42) rfl)) (hw _ (List.mem_of_getElem? (i := 43) rfl)) (hw _ (List.mem_of_getElem? (i := 45) rfl)) (hw _ (List.mem_of_getElem? (i := 44) rfl)) (hw _ (List.mem_of_getElem? (i := 2) rfl)) (hw _ (List.mem_of_getElem? (i := 46) rfl)) (by decide) (by decide) (by decide) (by decide) (by decide) e17 (g := (mkF m 158 #[.val (.int p0), .val (.int p1), .val (.int (0 : Int32)), .val (.int (0 : Int32)), .val (.ref aF), .val (.ref aF)] [(.ref aF), (.ref aF)])) rfl (by rw [hml]; rfl) E_F_15 (argsL := [(.ref aF)]) (rest := []) rfl (lenOf own_pd_4 rfl) rfl (by show 2 * 0 + _ ≤ _; exact Nat.le_of_eq rfl) (hb hby at_158)
      obtain ⟨H18, e18⟩ : ∃ z, T18.heap = z := ⟨_, rfl⟩
      rw [e18] at Q18
      obtain ⟨rfl, Nq18, Eq18⟩ := Q18
      have N18 := Fr.app N17 Nq18
      have Zs18 := Nat.le_trans Zs9 Eq18.1
      have hk : T18.heap.size ≤ H18.size := by rw [e18]; exact Nat.le_refl _
      have S_T_19 := Sta.ext Eq18 S_T_10
      have S_F_20 := Sta.ext Eq18 S_F_11
      have S_U_21 := Sta.ext Eq18 S_U_12
      have E_T_22 := Exa.ext Eq18 E_T_13
      have F_T_23 := Fld.ext Eq18 F_T_14
      have E_F_24 := Exa.ext Eq18 E_F_15
      have F_F_25 := Fld.ext Eq18 F_F_16
      refine Go.s (fun {t} => st18) ?_
      refine Go.s (fun kz => XS.iloadN X18.here hx rfl (hb hby at_161) rfl kz) ?_
      show Go p.tables e below P (T18.setTop (mkF m 162 #[.val (.int p0), .val (.int p1), .val (.int (0 : Int32)), .val (.int (0 : Int32)), .val (.ref aF), .val (.ref aF)] [(.int (0 : Int32)), (.ref aF)]))
      refine Go.s (fun kz => XS.ifNo X18.here hx rfl (hb hby at_162) rfl (XT.i0_ne_f (by decide)) kz) ?_
      show Go p.tables e below P (T18.setTop (mkF m 165 #[.val (.int p0), .val (.int p1), .val (.int (0 : Int32)), .val (.int (0 : Int32)), .val (.ref aF), .val (.ref aF)] [(.ref aF)]))
      refine Go.s (fun kz => XS.iloadN X18.here hx rfl (hb hby at_165) rfl kz) ?_
      show Go p.tables e below P (T18.setTop (mkF m 166 #[.val (.int p0), .val (.int p1), .val (.int (0 : Int32)), .val (.int (0 : Int32)), .val (.ref aF), .val (.ref aF)] [(.int (0 : Int32)), (.ref aF)]))
      refine Go.s (fun kz => XS.ifYes X18.here hx rfl (pc0 := 166) (pc' := 173) rfl (hb hby at_166) rfl (XT.i0_eq_t (by decide)) (by decide) (by decide) kz) ?_
      show Go p.tables e below P (T18.setTop (mkF m 173 #[.val (.int p0), .val (.int p1), .val (.int (0 : Int32)), .val (.int (0 : Int32)), .val (.ref aF), .val (.ref aF)] [(.ref aF)]))
      refine Go.s (fun kz => XS.iconst X18.here hx rfl (hb hby at_173) kz) ?_
      show Go p.tables e below P (T18.setTop (mkF m 174 #[.val (.int p0), .val (.int p1), .val (.int (0 : Int32)), .val (.int (0 : Int32)), .val (.ref aF), .val (.ref aF)] [(.int (0 : Int32)), (.ref aF)]))
      obtain ⟨v26, T26, L26, X26, Q26, st26⟩ := Con.static (own_rm1_0 l Z a0 hw [] aF H18 n0 Zs18 S_F_20) X18 hx hZ (W := 1) hown (hw _ (List.mem_of_getElem? (i := 0) rfl)) (hw _ (List.mem_of_getElem? (i := 1) rfl)) (hw _ (List.mem_of_getElem? (i := 2) rfl)) (hw _ (List.mem_of_getElem? (i := 3) rfl)) (by decide) (by decide) (by decide) (by decide) (by decide) e18 (g := (mkF m 174 #[.val (.int p0), .val (.int p1), .val (.int (0 : Int32)), .val (.int (0 : Int32)), .val (.ref aF), .val (.ref aF)] [(.int (0 : Int32)), (.ref aF)])) rfl (by rw [hml]; rfl) (argsL := [(.int (0 : Int32))]) (rest := [(.ref aF)]) rfl (lenOf own_pd_2 rfl) rfl (by show 2 * 0 + _ ≤ _; exact Nat.le_of_eq rfl) (hb hby at_174)
      obtain ⟨rfl, Nq26, e26⟩ := Q26
      have N26 := Fr.app N18 Nq26
      refine Go.s (fun {t} => st26) ?_
      show Go p.tables e below P (T26.setTop (mkF m 177 #[.val (.int p0), .val (.int p1), .val (.int (0 : Int32)), .val (.int (0 : Int32)), .val (.ref aF), .val (.ref aF)] [(.ref aF), (.ref aF)]))
      refine Go.s (fun kz => XT.acmpNo X26.here hx rfl (hb hby at_177) rfl rfl rfl (XT.aa_ne_f rfl) kz) ?_
      show Go p.tables e below P (T26.setTop (mkF m 180 #[.val (.int p0), .val (.int p1), .val (.int (0 : Int32)), .val (.int (0 : Int32)), .val (.ref aF), .val (.ref aF)] []))
      refine Go.s (fun kz => XS.iconst X26.here hx rfl (hb hby at_180) kz) ?_
      refine Go.s (fun kz => XS.goto X26.here hx rfl (pc0 := 181) (pc' := 185) rfl (hb hby at_181) (by decide) (by decide) kz) ?_
      show Go p.tables e below P (T26.setTop (mkF m 185 #[.val (.int p0), .val (.int p1), .val (.int (0 : Int32)), .val (.int (0 : Int32)), .val (.ref aF), .val (.ref aF)] [(.int (1 : Int32))]))
      exact Go.retZW X26 hx hlk hS (by rw [e26]; exact hk) hret (by decide) (hb hby at_185) (fun U hU hF => hP U _ _ ⟨rfl, N26⟩ ⟨hF.1, hF.2.1, hF.2.2.1, hF.2.2.2.mono (by decide) (by decide)⟩)
    · skip
      refine Go.s (fun kz => XS.ifNo X0.here hx rfl (hb hby at_15) rfl (XT.i0_eq_f hc15) kz) ?_
      show Go p.tables e below P (s₁.setTop (mkF m 18 #[.val (.int p0), .val (.int p1), .val (.int (0 : Int32)), .unset, .unset, .unset] []))
      refine Go.s (fun kz => XS.iconst X0.here hx rfl (hb hby at_18) kz) ?_
      refine Go.s (fun kz => XS.goto X0.here hx rfl (pc0 := 19) (pc' := 23) rfl (hb hby at_19) (by decide) (by decide) kz) ?_
      show Go p.tables e below P (s₁.setTop (mkF m 23 #[.val (.int p0), .val (.int p1), .val (.int (0 : Int32)), .unset, .unset, .unset] [(.int (1 : Int32))]))
      refine Go.s (fun kz => XS.istoreN X0.here hx rfl (hb hby at_23) rfl (l' := #[.val (.int p0), .val (.int p1), .val (.int (0 : Int32)), .val (.int (1 : Int32)), .unset, .unset]) rfl kz) ?_
      refine Go.s (fun kz => XS.iloadN X0.here hx rfl (hb hby at_24) rfl kz) ?_
      show Go p.tables e below P (s₁.setTop (mkF m 25 #[.val (.int p0), .val (.int p1), .val (.int (0 : Int32)), .val (.int (1 : Int32)), .unset, .unset] [(.int (0 : Int32))]))
      obtain ⟨v27, T27, L27, X27, Q27, st27⟩ := Con.static (own_rm1_0 l Z a0 hw [] aF h0 n0 Z0 S_F) X0 hx hZ (W := 0) hown (hw _ (List.mem_of_getElem? (i := 0) rfl)) (hw _ (List.mem_of_getElem? (i := 1) rfl)) (hw _ (List.mem_of_getElem? (i := 2) rfl)) (hw _ (List.mem_of_getElem? (i := 3) rfl)) (by decide) (by decide) (by decide) (by decide) (by decide) e0 (g := (mkF m 25 #[.val (.int p0), .val (.int p1), .val (.int (0 : Int32)), .val (.int (1 : Int32)), .unset, .unset] [(.int (0 : Int32))])) rfl (by rw [hml]; rfl) (argsL := [(.int (0 : Int32))]) (rest := []) rfl (lenOf own_pd_2 rfl) rfl (by show 2 * 0 + _ ≤ _; exact Nat.le_of_eq rfl) (hb hby at_25)
      obtain ⟨rfl, Nq27, e27⟩ := Q27
      have N27 := Fr.app N0 Nq27
      refine Go.s (fun {t} => st27) ?_
      refine Go.s (fun kz => XS.astore X27.here hx rfl (hb hby at_28) rfl rfl (l' := #[.val (.int p0), .val (.int p1), .val (.int (0 : Int32)), .val (.int (1 : Int32)), .val (.ref aF), .unset]) rfl kz) ?_
      refine Go.s (fun kz => XS.iloadN X27.here hx rfl (hb hby at_30) rfl kz) ?_
      show Go p.tables e below P (T27.setTop (mkF m 31 #[.val (.int p0), .val (.int p1), .val (.int (0 : Int32)), .val (.int (1 : Int32)), .val (.ref aF), .unset] [(.int (1 : Int32))]))
      obtain ⟨v28, T28, L28, X28, Q28, st28⟩ := Con.static (own_rm1_1 l Z a0 hw [] aT h0 n0 Z0 S_T) X27 hx hZ (W := 0) hown (hw _ (List.mem_of_getElem? (i := 0) rfl)) (hw _ (List.mem_of_getElem? (i := 1) rfl)) (hw _ (List.mem_of_getElem? (i := 2) rfl)) (hw _ (List.mem_of_getElem? (i := 3) rfl)) (by decide) (by decide) (by decide) (by decide) (by decide) e27 (g := (mkF m 31 #[.val (.int p0), .val (.int p1), .val (.int (0 : Int32)), .val (.int (1 : Int32)), .val (.ref aF), .unset] [(.int (1 : Int32))])) rfl (by rw [hml]; rfl) (argsL := [(.int (1 : Int32))]) (rest := []) rfl (lenOf own_pd_2 rfl) rfl (by show 2 * 0 + _ ≤ _; exact Nat.le_of_eq rfl) (hb hby at_31)
      obtain ⟨rfl, Nq28, e28⟩ := Q28
      have N28 := Fr.app N27 Nq28
      refine Go.s (fun {t} => st28) ?_
      refine Go.s (fun kz => XS.astore X28.here hx rfl (hb hby at_34) rfl rfl (l' := #[.val (.int p0), .val (.int p1), .val (.int (0 : Int32)), .val (.int (1 : Int32)), .val (.ref aF), .val (.ref aT)]) rfl kz) ?_
      refine Go.s (fun kz => XS.aload X28.here hx rfl (hb hby at_36) rfl rfl kz) ?_
      show Go p.tables e below P (T28.setTop (mkF m 38 #[.val (.int p0), .val (.int p1), .val (.int (0 : Int32)), .val (.int (1 : Int32)), .val (.ref aF), .val (.ref aT)] [(.ref aF)]))
      refine Go.s (fun kz => XS.ifnullNo X28.here hx rfl (hb hby at_38) rfl kz) ?_
      show Go p.tables e below P (T28.setTop (mkF m 41 #[.val (.int p0), .val (.int p1), .val (.int (0 : Int32)), .val (.int (1 : Int32)), .val (.ref aF), .val (.ref aT)] []))
      refine Go.s (fun kz => XS.aload X28.here hx rfl (hb hby at_41) rfl rfl kz) ?_
      show Go p.tables e below P (T28.setTop (mkF m 43 #[.val (.int p0), .val (.int p1), .val (.int (0 : Int32)), .val (.int (1 : Int32)), .val (.ref aF), .val (.ref aT)] [(.ref aT)]))
      refine Go.s (fun kz => XT.ifnonnullYes X28.here hx rfl (pc0 := 43) (pc' := 48) rfl (hb hby at_43) rfl (by decide) (by decide) kz) ?_
      show Go p.tables e below P (T28.setTop (mkF m 48 #[.val (.int p0), .val (.int p1), .val (.int (0 : Int32)), .val (.int (1 : Int32)), .val (.ref aF), .val (.ref aT)] []))
      refine Go.s (fun kz => XS.aload X28.here hx rfl (hb hby at_48) rfl rfl kz) ?_
      show Go p.tables e below P (T28.setTop (mkF m 50 #[.val (.int p0), .val (.int p1), .val (.int (0 : Int32)), .val (.int (1 : Int32)), .val (.ref aF), .val (.ref aT)] [(.ref aF)]))
      obtain ⟨T29, X29, e29, st29⟩ := getS2 X28 hx hZ hown (host := "") (Or.inl (hw _ (List.mem_of_getElem? (i := 8) rfl))) Via.refl e28 S_U (g := (mkF m 50 #[.val (.int p0), .val (.int p1), .val (.int (0 : Int32)), .val (.int (1 : Int32)), .val (.ref aF), .val (.ref aT)] [(.ref aF)])) rfl (hb hby at_50)
      refine Go.s (fun {t} => st29 t) ?_
      show Go p.tables e below P (T29.setTop (mkF m 53 #[.val (.int p0), .val (.int p1), .val (.int (0 : Int32)), .val (.int (1 : Int32)), .val (.ref aF), .val (.ref aT)] [(.ref aU), (.ref aF)]))
      refine Go.s (fun kz => XT.acmpNo X29.here hx rfl (hb hby at_53) rfl rfl rfl (XT.aa_eq_f (fun q => hFU (Value.ref.inj q))) kz) ?_
      show Go p.tables e below P (T29.setTop (mkF m 56 #[.val (.int p0), .val (.int p1), .val (.int (0 : Int32)), .val (.int (1 : Int32)), .val (.ref aF), .val (.ref aT)] []))
      refine Go.s (fun kz => XS.aload X29.here hx rfl (hb hby at_56) rfl rfl kz) ?_
      show Go p.tables e below P (T29.setTop (mkF m 58 #[.val (.int p0), .val (.int p1), .val (.int (0 : Int32)), .val (.int (1 : Int32)), .val (.ref aF), .val (.ref aT)] [(.ref aT)]))
      obtain ⟨T30, X30, e30, st30⟩ := getS2 X29 hx hZ hown (host := "") (Or.inl (hw _ (List.mem_of_getElem? (i := 8) rfl))) Via.refl e29 S_U (g := (mkF m 58 #[.val (.int p0), .val (.int p1), .val (.int (0 : Int32)), .val (.int (1 : Int32)), .val (.ref aF), .val (.ref aT)] [(.ref aT)])) rfl (hb hby at_58)
      refine Go.s (fun {t} => st30 t) ?_
      show Go p.tables e below P (T30.setTop (mkF m 61 #[.val (.int p0), .val (.int p1), .val (.int (0 : Int32)), .val (.int (1 : Int32)), .val (.ref aF), .val (.ref aT)] [(.ref aU), (.ref aT)]))
      refine Go.s (fun kz => XT.acmpYes X30.here hx rfl (pc0 := 61) (pc' := 66) rfl (hb hby at_61) rfl rfl rfl (XT.aa_ne_t (fun q => hTU (Value.ref.inj q))) (by decide) (by decide) kz) ?_
      show Go p.tables e below P (T30.setTop (mkF m 66 #[.val (.int p0), .val (.int p1), .val (.int (0 : Int32)), .val (.int (1 : Int32)), .val (.ref aF), .val (.ref aT)] []))
      refine Go.s (fun kz => XS.aload X30.here hx rfl (hb hby at_66) rfl rfl kz) ?_
      show Go p.tables e below P (T30.setTop (mkF m 68 #[.val (.int p0), .val (.int p1), .val (.int (0 : Int32)), .val (.int (1 : Int32)), .val (.ref aF), .val (.ref aT)] [(.ref aF)]))
      obtain ⟨T31, X31, e31, st31⟩ := getS2 X30 hx hZ hown (host := "") (Or.inl (hw _ (List.mem_of_getElem? (i := 10) rfl))) Via.refl e30 S_T (g := (mkF m 68 #[.val (.int p0), .val (.int p1), .val (.int (0 : Int32)), .val (.int (1 : Int32)), .val (.ref aF), .val (.ref aT)] [(.ref aF)])) rfl (hb hby at_68)
      refine Go.s (fun {t} => st31 t) ?_
      show Go p.tables e below P (T31.setTop (mkF m 71 #[.val (.int p0), .val (.int p1), .val (.int (0 : Int32)), .val (.int (1 : Int32)), .val (.ref aF), .val (.ref aT)] [(.ref aT), (.ref aF)]))
      refine Go.s (fun kz => XT.acmpYes X31.here hx rfl (pc0 := 71) (pc' := 78) rfl (hb hby at_71) rfl rfl rfl (XT.aa_ne_t (fun q => (Ne.symm hTF) (Value.ref.inj q))) (by decide) (by decide) kz) ?_
      show Go p.tables e below P (T31.setTop (mkF m 78 #[.val (.int p0), .val (.int p1), .val (.int (0 : Int32)), .val (.int (1 : Int32)), .val (.ref aF), .val (.ref aT)] []))
      refine Go.s (fun kz => XS.iconst X31.here hx rfl (hb hby at_78) kz) ?_
      refine Go.s (fun kz => XS.iloadN X31.here hx rfl (hb hby at_79) rfl kz) ?_
      show Go p.tables e below P (T31.setTop (mkF m 80 #[.val (.int p0), .val (.int p1), .val (.int (0 : Int32)), .val (.int (1 : Int32)), .val (.ref aF), .val (.ref aT)] [(.int (0 : Int32)), (.int (0 : Int32))]))
      refine Go.s (fun kz => XS.icmpYes X31.here hx rfl (pc0 := 80) (pc' := 85) rfl (hb hby at_80) rfl (XT.ii_eq_t (by decide)) (by decide) (by decide) kz) ?_
      show Go p.tables e below P (T31.setTop (mkF m 85 #[.val (.int p0), .val (.int p1), .val (.int (0 : Int32)), .val (.int (1 : Int32)), .val (.ref aF), .val (.ref aT)] []))
      refine Go.s (fun kz => XS.aload X31.here hx rfl (hb hby at_85) rfl rfl kz) ?_
      show Go p.tables e below P (T31.setTop (mkF m 87 #[.val (.int p0), .val (.int p1), .val (.int (0 : Int32)), .val (.int (1 : Int32)), .val (.ref aF), .val (.ref aT)] [(.ref aT)]))
      obtain ⟨T32, X32, e32, st32⟩ := getS2 X31 hx hZ hown (host := "") (Or.inl (hw _ (List.mem_of_getElem? (i := 10) rfl))) Via.refl e31 S_T (g := (mkF m 87 #[.val (.int p0), .val (.int p1), .val (.int (0 : Int32)), .val (.int (1 : Int32)), .val (.ref aF), .val (.ref aT)] [(.ref aT)])) rfl (hb hby at_87)
      refine Go.s (fun {t} => st32 t) ?_
      show Go p.tables e below P (T32.setTop (mkF m 90 #[.val (.int p0), .val (.int p1), .val (.int (0 : Int32)), .val (.int (1 : Int32)), .val (.ref aF), .val (.ref aT)] [(.ref aT), (.ref aT)]))
      refine Go.s (fun kz => XT.acmpNo X32.here hx rfl (hb hby at_90) rfl rfl rfl (XT.aa_ne_f rfl) kz) ?_
      show Go p.tables e below P (T32.setTop (mkF m 93 #[.val (.int p0), .val (.int p1), .val (.int (0 : Int32)), .val (.int (1 : Int32)), .val (.ref aF), .val (.ref aT)] []))
      refine Go.s (fun kz => XS.iconst X32.here hx rfl (hb hby at_93) kz) ?_
      refine Go.s (fun kz => XS.goto X32.here hx rfl (pc0 := 94) (pc' := 98) rfl (hb hby at_94) (by decide) (by decide) kz) ?_
      show Go p.tables e below P (T32.setTop (mkF m 98 #[.val (.int p0), .val (.int p1), .val (.int (0 : Int32)), .val (.int (1 : Int32)), .val (.ref aF), .val (.ref aT)] [(.int (1 : Int32))]))
      refine Go.s (fun kz => XS.iloadN X32.here hx rfl (hb hby at_98) rfl kz) ?_
      show Go p.tables e below P (T32.setTop (mkF m 99 #[.val (.int p0), .val (.int p1), .val (.int (0 : Int32)), .val (.int (1 : Int32)), .val (.ref aF), .val (.ref aT)] [(.int (1 : Int32)), (.int (1 : Int32))]))
      refine Go.s (fun kz => XS.icmpYes X32.here hx rfl (pc0 := 99) (pc' := 104) rfl (hb hby at_99) rfl (XT.ii_eq_t (by decide)) (by decide) (by decide) kz) ?_
      show Go p.tables e below P (T32.setTop (mkF m 104 #[.val (.int p0), .val (.int p1), .val (.int (0 : Int32)), .val (.int (1 : Int32)), .val (.ref aF), .val (.ref aT)] []))
      refine Go.s (fun kz => XS.aload X32.here hx rfl (hb hby at_104) rfl rfl kz) ?_
      show Go p.tables e below P (T32.setTop (mkF m 106 #[.val (.int p0), .val (.int p1), .val (.int (0 : Int32)), .val (.int (1 : Int32)), .val (.ref aF), .val (.ref aT)] [(.ref aF)]))
      obtain ⟨v33, T33, L33, X33, Q33, st33⟩ := Con.virtual (own_rm2_F l Z a0 hw [] aT aF h0 n0 Z0 S_T E_F F_F) X32 hx hZ (W := 0) hown (hw _ (List.mem_of_getElem? (i := 11) rfl)) (hw _ (List.mem_of_getElem? (i := 12) rfl)) (hw _ (List.mem_of_getElem? (i := 14) rfl)) (hw _ (List.mem_of_getElem? (i := 13) rfl)) (hw _ (List.mem_of_getElem? (i := 2) rfl)) (hw _ (List.mem_of_getElem? (i := 15) rfl)) (by decide) (by decide) (by decide) (by decide) (by decide) e32 (g := (mkF m 106 #[.val (.int p0), .val (.int p1), .val (.int (0 : Int32)), .val (.int (1 : Int32)), .val (.ref aF), .val (.ref aT)] [(.ref aF)])) rfl (by rw [hml]; rfl) E_F (argsL := []) (rest := []) rfl (lenOf own_pd_3 rfl) rfl (by show 2 * 0 + _ ≤ _; exact Nat.le_of_eq rfl) (hb hby at_106)
      obtain ⟨rfl, Nq33, e33⟩ := Q33
      have N33 := Fr.app N28 Nq33
      refine Go.s (fun {t} => st33) ?_
      refine Go.s (fun kz => XS.iloadN X33.here hx rfl (hb hby at_109) rfl kz) ?_
      show Go p.tables e below P (T33.setTop (mkF m 110 #[.val (.int p0), .val (.int p1), .val (.int (0 : Int32)), .val (.int (1 : Int32)), .val (.ref aF), .val (.ref aT)] [(.int (0 : Int32)), (.ref aT)]))
      refine Go.s (fun kz => XS.ifNo X33.here hx rfl (hb hby at_110) rfl (XT.i0_ne_f (by decide)) kz) ?_
      show Go p.tables e below P (T33.setTop (mkF m 113 #[.val (.int p0), .val (.int p1), .val (.int (0 : Int32)), .val (.int (1 : Int32)), .val (.ref aF), .val (.ref aT)] [(.ref aT)]))
      refine Go.s (fun kz => XS.iconst X33.here hx rfl (hb hby at_113) kz) ?_
      refine Go.s (fun kz => XS.goto X33.here hx rfl (pc0 := 114) (pc' := 118) rfl (hb hby at_114) (by decide) (by decide) kz) ?_
      show Go p.tables e below P (T33.setTop (mkF m 118 #[.val (.int p0), .val (.int p1), .val (.int (0 : Int32)), .val (.int (1 : Int32)), .val (.ref aF), .val (.ref aT)] [(.int (1 : Int32)), (.ref aT)]))
      obtain ⟨v34, T34, L34, X34, Q34, st34⟩ := Con.static (own_rm1_1 l Z a0 hw [] aT h0 n0 Z0 S_T) X33 hx hZ (W := 1) hown (hw _ (List.mem_of_getElem? (i := 0) rfl)) (hw _ (List.mem_of_getElem? (i := 1) rfl)) (hw _ (List.mem_of_getElem? (i := 2) rfl)) (hw _ (List.mem_of_getElem? (i := 3) rfl)) (by decide) (by decide) (by decide) (by decide) (by decide) e33 (g := (mkF m 118 #[.val (.int p0), .val (.int p1), .val (.int (0 : Int32)), .val (.int (1 : Int32)), .val (.ref aF), .val (.ref aT)] [(.int (1 : Int32)), (.ref aT)])) rfl (by rw [hml]; rfl) (argsL := [(.int (1 : Int32))]) (rest := [(.ref aT)]) rfl (lenOf own_pd_2 rfl) rfl (by show 2 * 0 + _ ≤ _; exact Nat.le_of_eq rfl) (hb hby at_118)
      obtain ⟨rfl, Nq34, e34⟩ := Q34
      have N34 := Fr.app N33 Nq34
      refine Go.s (fun {t} => st34) ?_
      show Go p.tables e below P (T34.setTop (mkF m 121 #[.val (.int p0), .val (.int p1), .val (.int (0 : Int32)), .val (.int (1 : Int32)), .val (.ref aF), .val (.ref aT)] [(.ref aT), (.ref aT)]))
      refine Go.s (fun kz => XT.acmpYes X34.here hx rfl (pc0 := 121) (pc' := 126) rfl (hb hby at_121) rfl rfl rfl (XT.aa_eq_t rfl) (by decide) (by decide) kz) ?_
      show Go p.tables e below P (T34.setTop (mkF m 126 #[.val (.int p0), .val (.int p1), .val (.int (0 : Int32)), .val (.int (1 : Int32)), .val (.ref aF), .val (.ref aT)] []))
      refine Go.s (fun kz => XS.aload X34.here hx rfl (hb hby at_126) rfl rfl kz) ?_
      refine Go.s (fun kz => XS.aload X34.here hx rfl (hb hby at_128) rfl rfl kz) ?_
      show Go p.tables e below P (T34.setTop (mkF m 130 #[.val (.int p0), .val (.int p1), .val (.int (0 : Int32)), .val (.int (1 : Int32)), .val (.ref aF), .val (.ref aT)] [(.ref aT), (.ref aF)]))
      obtain ⟨v35, T35, L35, X35, Q35, hS, hZ, hown, st35⟩ := ConW.virtual (own_rm4_FT l Z a0 hw [] aT aF aU h0 n0 Z0 S_T S_F S_U hTF hTU hFU) X34 hx hZ (W := 0) hown hS hk (hw _ (List.mem_of_getElem? (i := 25) rfl)) (hw _ (List.mem_of_getElem? (i := 26) rfl)) (hw _ (List.mem_of_getElem? (i := 28) rfl)) (hw _ (List.mem_of_getElem? (i := 27) rfl)) (hw _ (List.mem_of_getElem? (i := 2) rfl)) (hw _ (List.mem_of_getElem? (i := 29) rfl)) (by decide) (by decide) (by decide) (by decide) (by decide) e34 (g := (mkF m 130 #[.val (.int p0), .val (.int p1), .val (.int (0 : Int32)), .val (.int (1 : Int32)), .val (.ref aF), .val (.ref aT)] [(.ref aT), (.ref aF)])) rfl (by rw [hml]; rfl) E_F (argsL := [(.ref aT)]) (rest := []) rfl (lenOf own_pd_4 rfl) rfl (by show 2 * 0 + _ ≤ _; exact Nat.le_of_eq rfl) (hb hby at_130)
      obtain ⟨H35, e35⟩ : ∃ z, T35.heap = z := ⟨_, rfl⟩
      rw [e35] at Q35
      obtain ⟨rfl, Nq35, Eq35⟩ := Q35
      have N35 := Fr.app N34 Nq35
      have Zs35 := Nat.le_trans Z0 Eq35.1
      have hk : T35.heap.size ≤ H35.size := by rw [e35]; exact Nat.le_refl _
      have S_T_36 := Sta.ext Eq35 S_T
      have S_F_37 := Sta.ext Eq35 S_F
      have S_U_38 := Sta.ext Eq35 S_U
      have E_T_39 := Exa.ext Eq35 E_T
      have F_T_40 := Fld.ext Eq35 F_T
      have E_F_41 := Exa.ext Eq35 E_F
      have F_F_42 := Fld.ext Eq35 F_F
      refine Go.s (fun {t} => st35) ?_
      refine Go.s (fun kz => XS.iloadN X35.here hx rfl (hb hby at_133) rfl kz) ?_
      show Go p.tables e below P (T35.setTop (mkF m 134 #[.val (.int p0), .val (.int p1), .val (.int (0 : Int32)), .val (.int (1 : Int32)), .val (.ref aF), .val (.ref aT)] [(.int (0 : Int32)), (.ref aF)]))
      refine Go.s (fun kz => XS.ifYes X35.here hx rfl (pc0 := 134) (pc' := 145) rfl (hb hby at_134) rfl (XT.i0_eq_t (by decide)) (by decide) (by decide) kz) ?_
      show Go p.tables e below P (T35.setTop (mkF m 145 #[.val (.int p0), .val (.int p1), .val (.int (0 : Int32)), .val (.int (1 : Int32)), .val (.ref aF), .val (.ref aT)] [(.ref aF)]))
      refine Go.s (fun kz => XS.iconst X35.here hx rfl (hb hby at_145) kz) ?_
      show Go p.tables e below P (T35.setTop (mkF m 146 #[.val (.int p0), .val (.int p1), .val (.int (0 : Int32)), .val (.int (1 : Int32)), .val (.ref aF), .val (.ref aT)] [(.int (0 : Int32)), (.ref aF)]))
      obtain ⟨v43, T43, L43, X43, Q43, st43⟩ := Con.static (own_rm1_0 l Z a0 hw [] aF H35 n0 Zs35 S_F_37) X35 hx hZ (W := 1) hown (hw _ (List.mem_of_getElem? (i := 0) rfl)) (hw _ (List.mem_of_getElem? (i := 1) rfl)) (hw _ (List.mem_of_getElem? (i := 2) rfl)) (hw _ (List.mem_of_getElem? (i := 3) rfl)) (by decide) (by decide) (by decide) (by decide) (by decide) e35 (g := (mkF m 146 #[.val (.int p0), .val (.int p1), .val (.int (0 : Int32)), .val (.int (1 : Int32)), .val (.ref aF), .val (.ref aT)] [(.int (0 : Int32)), (.ref aF)])) rfl (by rw [hml]; rfl) (argsL := [(.int (0 : Int32))]) (rest := [(.ref aF)]) rfl (lenOf own_pd_2 rfl) rfl (by show 2 * 0 + _ ≤ _; exact Nat.le_of_eq rfl) (hb hby at_146)
      obtain ⟨rfl, Nq43, e43⟩ := Q43
      have N43 := Fr.app N35 Nq43
      refine Go.s (fun {t} => st43) ?_
      show Go p.tables e below P (T43.setTop (mkF m 149 #[.val (.int p0), .val (.int p1), .val (.int (0 : Int32)), .val (.int (1 : Int32)), .val (.ref aF), .val (.ref aT)] [(.ref aF), (.ref aF)]))
      refine Go.s (fun kz => XT.acmpYes X43.here hx rfl (pc0 := 149) (pc' := 154) rfl (hb hby at_149) rfl rfl rfl (XT.aa_eq_t rfl) (by decide) (by decide) kz) ?_
      show Go p.tables e below P (T43.setTop (mkF m 154 #[.val (.int p0), .val (.int p1), .val (.int (0 : Int32)), .val (.int (1 : Int32)), .val (.ref aF), .val (.ref aT)] []))
      refine Go.s (fun kz => XS.aload X43.here hx rfl (hb hby at_154) rfl rfl kz) ?_
      refine Go.s (fun kz => XS.aload X43.here hx rfl (hb hby at_156) rfl rfl kz) ?_
      show Go p.tables e below P (T43.setTop (mkF m 158 #[.val (.int p0), .val (.int p1), .val (.int (0 : Int32)), .val (.int (1 : Int32)), .val (.ref aF), .val (.ref aT)] [(.ref aT), (.ref aF)]))
      obtain ⟨v44, T44, L44, X44, Q44, hS, hZ, hown, st44⟩ := ConW.virtual (own_rm6_FT l Z a0 hw [] aT aF aU H35 n0 Zs35 S_T_36 S_F_37 S_U_38 hTF hTU hFU) X43 hx hZ (W := 0) hown hS hk (hw _ (List.mem_of_getElem? (i := 42) rfl)) (hw _ (List.mem_of_getElem? (i := 43) rfl)) (hw _ (List.mem_of_getElem? (i := 45) rfl)) (hw _ (List.mem_of_getElem? (i := 44) rfl)) (hw _ (List.mem_of_getElem? (i := 2) rfl)) (hw _ (List.mem_of_getElem? (i := 46) rfl)) (by decide) (by decide) (by decide) (by decide) (by decide) e43 (g := (mkF m 158 #[.val (.int p0), .val (.int p1), .val (.int (0 : Int32)), .val (.int (1 : Int32)), .val (.ref aF), .val (.ref aT)] [(.ref aT), (.ref aF)])) rfl (by rw [hml]; rfl) E_F_41 (argsL := [(.ref aT)]) (rest := []) rfl (lenOf own_pd_4 rfl) rfl (by show 2 * 0 + _ ≤ _; exact Nat.le_of_eq rfl) (hb hby at_158)
      obtain ⟨H44, e44⟩ : ∃ z, T44.heap = z := ⟨_, rfl⟩
      rw [e44] at Q44
      obtain ⟨rfl, Nq44, Eq44⟩ := Q44
      have N44 := Fr.app N43 Nq44
      have Zs44 := Nat.le_trans Zs35 Eq44.1
      have hk : T44.heap.size ≤ H44.size := by rw [e44]; exact Nat.le_refl _
      have S_T_45 := Sta.ext Eq44 S_T_36
      have S_F_46 := Sta.ext Eq44 S_F_37
      have S_U_47 := Sta.ext Eq44 S_U_38
      have E_T_48 := Exa.ext Eq44 E_T_39
      have F_T_49 := Fld.ext Eq44 F_T_40
      have E_F_50 := Exa.ext Eq44 E_F_41
      have F_F_51 := Fld.ext Eq44 F_F_42
      refine Go.s (fun {t} => st44) ?_
      refine Go.s (fun kz => XS.iloadN X44.here hx rfl (hb hby at_161) rfl kz) ?_
      show Go p.tables e below P (T44.setTop (mkF m 162 #[.val (.int p0), .val (.int p1), .val (.int (0 : Int32)), .val (.int (1 : Int32)), .val (.ref aF), .val (.ref aT)] [(.int (0 : Int32)), (.ref aT)]))
      refine Go.s (fun kz => XS.ifNo X44.here hx rfl (hb hby at_162) rfl (XT.i0_ne_f (by decide)) kz) ?_
      show Go p.tables e below P (T44.setTop (mkF m 165 #[.val (.int p0), .val (.int p1), .val (.int (0 : Int32)), .val (.int (1 : Int32)), .val (.ref aF), .val (.ref aT)] [(.ref aT)]))
      refine Go.s (fun kz => XS.iloadN X44.here hx rfl (hb hby at_165) rfl kz) ?_
      show Go p.tables e below P (T44.setTop (mkF m 166 #[.val (.int p0), .val (.int p1), .val (.int (0 : Int32)), .val (.int (1 : Int32)), .val (.ref aF), .val (.ref aT)] [(.int (1 : Int32)), (.ref aT)]))
      refine Go.s (fun kz => XS.ifNo X44.here hx rfl (hb hby at_166) rfl (XT.i0_eq_f (by decide)) kz) ?_
      show Go p.tables e below P (T44.setTop (mkF m 169 #[.val (.int p0), .val (.int p1), .val (.int (0 : Int32)), .val (.int (1 : Int32)), .val (.ref aF), .val (.ref aT)] [(.ref aT)]))
      refine Go.s (fun kz => XS.iconst X44.here hx rfl (hb hby at_169) kz) ?_
      refine Go.s (fun kz => XS.goto X44.here hx rfl (pc0 := 170) (pc' := 174) rfl (hb hby at_170) (by decide) (by decide) kz) ?_
      show Go p.tables e below P (T44.setTop (mkF m 174 #[.val (.int p0), .val (.int p1), .val (.int (0 : Int32)), .val (.int (1 : Int32)), .val (.ref aF), .val (.ref aT)] [(.int (1 : Int32)), (.ref aT)]))
      obtain ⟨v52, T52, L52, X52, Q52, st52⟩ := Con.static (own_rm1_1 l Z a0 hw [] aT H44 n0 Zs44 S_T_45) X44 hx hZ (W := 1) hown (hw _ (List.mem_of_getElem? (i := 0) rfl)) (hw _ (List.mem_of_getElem? (i := 1) rfl)) (hw _ (List.mem_of_getElem? (i := 2) rfl)) (hw _ (List.mem_of_getElem? (i := 3) rfl)) (by decide) (by decide) (by decide) (by decide) (by decide) e44 (g := (mkF m 174 #[.val (.int p0), .val (.int p1), .val (.int (0 : Int32)), .val (.int (1 : Int32)), .val (.ref aF), .val (.ref aT)] [(.int (1 : Int32)), (.ref aT)])) rfl (by rw [hml]; rfl) (argsL := [(.int (1 : Int32))]) (rest := [(.ref aT)]) rfl (lenOf own_pd_2 rfl) rfl (by show 2 * 0 + _ ≤ _; exact Nat.le_of_eq rfl) (hb hby at_174)
      obtain ⟨rfl, Nq52, e52⟩ := Q52
      have N52 := Fr.app N44 Nq52
      refine Go.s (fun {t} => st52) ?_
      show Go p.tables e below P (T52.setTop (mkF m 177 #[.val (.int p0), .val (.int p1), .val (.int (0 : Int32)), .val (.int (1 : Int32)), .val (.ref aF), .val (.ref aT)] [(.ref aT), (.ref aT)]))
      refine Go.s (fun kz => XT.acmpNo X52.here hx rfl (hb hby at_177) rfl rfl rfl (XT.aa_ne_f rfl) kz) ?_
      show Go p.tables e below P (T52.setTop (mkF m 180 #[.val (.int p0), .val (.int p1), .val (.int (0 : Int32)), .val (.int (1 : Int32)), .val (.ref aF), .val (.ref aT)] []))
      refine Go.s (fun kz => XS.iconst X52.here hx rfl (hb hby at_180) kz) ?_
      refine Go.s (fun kz => XS.goto X52.here hx rfl (pc0 := 181) (pc' := 185) rfl (hb hby at_181) (by decide) (by decide) kz) ?_
      show Go p.tables e below P (T52.setTop (mkF m 185 #[.val (.int p0), .val (.int p1), .val (.int (0 : Int32)), .val (.int (1 : Int32)), .val (.ref aF), .val (.ref aT)] [(.int (1 : Int32))]))
      exact Go.retZW X52 hx hlk hS (by rw [e52]; exact hk) hret (by decide) (hb hby at_185) (fun U hU hF => hP U _ _ ⟨rfl, N52⟩ ⟨hF.1, hF.2.1, hF.2.2.1, hF.2.2.2.mono (by decide) (by decide)⟩)
  · skip
    refine Go.s (fun kz => XS.ifNo X0.here hx rfl (hb hby at_3) rfl (XT.i0_eq_f hc3) kz) ?_
    show Go p.tables e below P (s₁.setTop (mkF m 6 #[.val (.int p0), .val (.int p1), .unset, .unset, .unset, .unset] []))
    refine Go.s (fun kz => XS.iconst X0.here hx rfl (hb hby at_6) kz) ?_
    refine Go.s (fun kz => XS.goto X0.here hx rfl (pc0 := 7) (pc' := 11) rfl (hb hby at_7) (by decide) (by decide) kz) ?_
    show Go p.tables e below P (s₁.setTop (mkF m 11 #[.val (.int p0), .val (.int p1), .unset, .unset, .unset, .unset] [(.int (1 : Int32))]))
    refine Go.s (fun kz => XS.istoreN X0.here hx rfl (hb hby at_11) rfl (l' := #[.val (.int p0), .val (.int p1), .val (.int (1 : Int32)), .unset, .unset, .unset]) rfl kz) ?_
    refine Go.s (fun kz => XS.iloadN X0.here hx rfl (hb hby at_12) rfl kz) ?_
    refine Go.s (fun kz => XS.iconst X0.here hx rfl (hb hby at_13) kz) ?_
    show Go p.tables e below P (s₁.setTop (mkF m 14 #[.val (.int p0), .val (.int p1), .val (.int (1 : Int32)), .unset, .unset, .unset] [(.int (1 : Int32)), (.int p1)]))
    refine Go.s (fun kz => XS.iand X0.here hx rfl (hb hby at_14) rfl kz) ?_
    show Go p.tables e below P (s₁.setTop (mkF m 15 #[.val (.int p0), .val (.int p1), .val (.int (1 : Int32)), .unset, .unset, .unset] [(.int (p1 &&& (1 : Int32)))]))
    by_cases hc15 : (p1 &&& (1 : Int32)) = 0
    · skip
      refine Go.s (fun kz => XS.ifYes X0.here hx rfl (pc0 := 15) (pc' := 22) rfl (hb hby at_15) rfl (XT.i0_eq_t hc15) (by decide) (by decide) kz) ?_
      show Go p.tables e below P (s₁.setTop (mkF m 22 #[.val (.int p0), .val (.int p1), .val (.int (1 : Int32)), .unset, .unset, .unset] []))
      refine Go.s (fun kz => XS.iconst X0.here hx rfl (hb hby at_22) kz) ?_
      refine Go.s (fun kz => XS.istoreN X0.here hx rfl (hb hby at_23) rfl (l' := #[.val (.int p0), .val (.int p1), .val (.int (1 : Int32)), .val (.int (0 : Int32)), .unset, .unset]) rfl kz) ?_
      refine Go.s (fun kz => XS.iloadN X0.here hx rfl (hb hby at_24) rfl kz) ?_
      show Go p.tables e below P (s₁.setTop (mkF m 25 #[.val (.int p0), .val (.int p1), .val (.int (1 : Int32)), .val (.int (0 : Int32)), .unset, .unset] [(.int (1 : Int32))]))
      obtain ⟨v53, T53, L53, X53, Q53, st53⟩ := Con.static (own_rm1_1 l Z a0 hw [] aT h0 n0 Z0 S_T) X0 hx hZ (W := 0) hown (hw _ (List.mem_of_getElem? (i := 0) rfl)) (hw _ (List.mem_of_getElem? (i := 1) rfl)) (hw _ (List.mem_of_getElem? (i := 2) rfl)) (hw _ (List.mem_of_getElem? (i := 3) rfl)) (by decide) (by decide) (by decide) (by decide) (by decide) e0 (g := (mkF m 25 #[.val (.int p0), .val (.int p1), .val (.int (1 : Int32)), .val (.int (0 : Int32)), .unset, .unset] [(.int (1 : Int32))])) rfl (by rw [hml]; rfl) (argsL := [(.int (1 : Int32))]) (rest := []) rfl (lenOf own_pd_2 rfl) rfl (by show 2 * 0 + _ ≤ _; exact Nat.le_of_eq rfl) (hb hby at_25)
      obtain ⟨rfl, Nq53, e53⟩ := Q53
      have N53 := Fr.app N0 Nq53
      refine Go.s (fun {t} => st53) ?_
      refine Go.s (fun kz => XS.astore X53.here hx rfl (hb hby at_28) rfl rfl (l' := #[.val (.int p0), .val (.int p1), .val (.int (1 : Int32)), .val (.int (0 : Int32)), .val (.ref aT), .unset]) rfl kz) ?_
      refine Go.s (fun kz => XS.iloadN X53.here hx rfl (hb hby at_30) rfl kz) ?_
      show Go p.tables e below P (T53.setTop (mkF m 31 #[.val (.int p0), .val (.int p1), .val (.int (1 : Int32)), .val (.int (0 : Int32)), .val (.ref aT), .unset] [(.int (0 : Int32))]))
      obtain ⟨v54, T54, L54, X54, Q54, st54⟩ := Con.static (own_rm1_0 l Z a0 hw [] aF h0 n0 Z0 S_F) X53 hx hZ (W := 0) hown (hw _ (List.mem_of_getElem? (i := 0) rfl)) (hw _ (List.mem_of_getElem? (i := 1) rfl)) (hw _ (List.mem_of_getElem? (i := 2) rfl)) (hw _ (List.mem_of_getElem? (i := 3) rfl)) (by decide) (by decide) (by decide) (by decide) (by decide) e53 (g := (mkF m 31 #[.val (.int p0), .val (.int p1), .val (.int (1 : Int32)), .val (.int (0 : Int32)), .val (.ref aT), .unset] [(.int (0 : Int32))])) rfl (by rw [hml]; rfl) (argsL := [(.int (0 : Int32))]) (rest := []) rfl (lenOf own_pd_2 rfl) rfl (by show 2 * 0 + _ ≤ _; exact Nat.le_of_eq rfl) (hb hby at_31)
      obtain ⟨rfl, Nq54, e54⟩ := Q54
      have N54 := Fr.app N53 Nq54
      refine Go.s (fun {t} => st54) ?_
      refine Go.s (fun kz => XS.astore X54.here hx rfl (hb hby at_34) rfl rfl (l' := #[.val (.int p0), .val (.int p1), .val (.int (1 : Int32)), .val (.int (0 : Int32)), .val (.ref aT), .val (.ref aF)]) rfl kz) ?_
      refine Go.s (fun kz => XS.aload X54.here hx rfl (hb hby at_36) rfl rfl kz) ?_
      show Go p.tables e below P (T54.setTop (mkF m 38 #[.val (.int p0), .val (.int p1), .val (.int (1 : Int32)), .val (.int (0 : Int32)), .val (.ref aT), .val (.ref aF)] [(.ref aT)]))
      refine Go.s (fun kz => XS.ifnullNo X54.here hx rfl (hb hby at_38) rfl kz) ?_
      show Go p.tables e below P (T54.setTop (mkF m 41 #[.val (.int p0), .val (.int p1), .val (.int (1 : Int32)), .val (.int (0 : Int32)), .val (.ref aT), .val (.ref aF)] []))
      refine Go.s (fun kz => XS.aload X54.here hx rfl (hb hby at_41) rfl rfl kz) ?_
      show Go p.tables e below P (T54.setTop (mkF m 43 #[.val (.int p0), .val (.int p1), .val (.int (1 : Int32)), .val (.int (0 : Int32)), .val (.ref aT), .val (.ref aF)] [(.ref aF)]))
      refine Go.s (fun kz => XT.ifnonnullYes X54.here hx rfl (pc0 := 43) (pc' := 48) rfl (hb hby at_43) rfl (by decide) (by decide) kz) ?_
      show Go p.tables e below P (T54.setTop (mkF m 48 #[.val (.int p0), .val (.int p1), .val (.int (1 : Int32)), .val (.int (0 : Int32)), .val (.ref aT), .val (.ref aF)] []))
      refine Go.s (fun kz => XS.aload X54.here hx rfl (hb hby at_48) rfl rfl kz) ?_
      show Go p.tables e below P (T54.setTop (mkF m 50 #[.val (.int p0), .val (.int p1), .val (.int (1 : Int32)), .val (.int (0 : Int32)), .val (.ref aT), .val (.ref aF)] [(.ref aT)]))
      obtain ⟨T55, X55, e55, st55⟩ := getS2 X54 hx hZ hown (host := "") (Or.inl (hw _ (List.mem_of_getElem? (i := 8) rfl))) Via.refl e54 S_U (g := (mkF m 50 #[.val (.int p0), .val (.int p1), .val (.int (1 : Int32)), .val (.int (0 : Int32)), .val (.ref aT), .val (.ref aF)] [(.ref aT)])) rfl (hb hby at_50)
      refine Go.s (fun {t} => st55 t) ?_
      show Go p.tables e below P (T55.setTop (mkF m 53 #[.val (.int p0), .val (.int p1), .val (.int (1 : Int32)), .val (.int (0 : Int32)), .val (.ref aT), .val (.ref aF)] [(.ref aU), (.ref aT)]))
      refine Go.s (fun kz => XT.acmpNo X55.here hx rfl (hb hby at_53) rfl rfl rfl (XT.aa_eq_f (fun q => hTU (Value.ref.inj q))) kz) ?_
      show Go p.tables e below P (T55.setTop (mkF m 56 #[.val (.int p0), .val (.int p1), .val (.int (1 : Int32)), .val (.int (0 : Int32)), .val (.ref aT), .val (.ref aF)] []))
      refine Go.s (fun kz => XS.aload X55.here hx rfl (hb hby at_56) rfl rfl kz) ?_
      show Go p.tables e below P (T55.setTop (mkF m 58 #[.val (.int p0), .val (.int p1), .val (.int (1 : Int32)), .val (.int (0 : Int32)), .val (.ref aT), .val (.ref aF)] [(.ref aF)]))
      obtain ⟨T56, X56, e56, st56⟩ := getS2 X55 hx hZ hown (host := "") (Or.inl (hw _ (List.mem_of_getElem? (i := 8) rfl))) Via.refl e55 S_U (g := (mkF m 58 #[.val (.int p0), .val (.int p1), .val (.int (1 : Int32)), .val (.int (0 : Int32)), .val (.ref aT), .val (.ref aF)] [(.ref aF)])) rfl (hb hby at_58)
      refine Go.s (fun {t} => st56 t) ?_
      show Go p.tables e below P (T56.setTop (mkF m 61 #[.val (.int p0), .val (.int p1), .val (.int (1 : Int32)), .val (.int (0 : Int32)), .val (.ref aT), .val (.ref aF)] [(.ref aU), (.ref aF)]))
      refine Go.s (fun kz => XT.acmpYes X56.here hx rfl (pc0 := 61) (pc' := 66) rfl (hb hby at_61) rfl rfl rfl (XT.aa_ne_t (fun q => hFU (Value.ref.inj q))) (by decide) (by decide) kz) ?_
      show Go p.tables e below P (T56.setTop (mkF m 66 #[.val (.int p0), .val (.int p1), .val (.int (1 : Int32)), .val (.int (0 : Int32)), .val (.ref aT), .val (.ref aF)] []))
      refine Go.s (fun kz => XS.aload X56.here hx rfl (hb hby at_66) rfl rfl kz) ?_
      show Go p.tables e below P (T56.setTop (mkF m 68 #[.val (.int p0), .val (.int p1), .val (.int (1 : Int32)), .val (.int (0 : Int32)), .val (.ref aT), .val (.ref aF)] [(.ref aT)]))
      obtain ⟨T57, X57, e57, st57⟩ := getS2 X56 hx hZ hown (host := "") (Or.inl (hw _ (List.mem_of_getElem? (i := 10) rfl))) Via.refl e56 S_T (g := (mkF m 68 #[.val (.int p0), .val (.int p1), .val (.int (1 : Int32)), .val (.int (0 : Int32)), .val (.ref aT), .val (.ref aF)] [(.ref aT)])) rfl (hb hby at_68)
      refine Go.s (fun {t} => st57 t) ?_
      show Go p.tables e below P (T57.setTop (mkF m 71 #[.val (.int p0), .val (.int p1), .val (.int (1 : Int32)), .val (.int (0 : Int32)), .val (.ref aT), .val (.ref aF)] [(.ref aT), (.ref aT)]))
      refine Go.s (fun kz => XT.acmpNo X57.here hx rfl (hb hby at_71) rfl rfl rfl (XT.aa_ne_f rfl) kz) ?_
      show Go p.tables e below P (T57.setTop (mkF m 74 #[.val (.int p0), .val (.int p1), .val (.int (1 : Int32)), .val (.int (0 : Int32)), .val (.ref aT), .val (.ref aF)] []))
      refine Go.s (fun kz => XS.iconst X57.here hx rfl (hb hby at_74) kz) ?_
      refine Go.s (fun kz => XS.goto X57.here hx rfl (pc0 := 75) (pc' := 79) rfl (hb hby at_75) (by decide) (by decide) kz) ?_
      show Go p.tables e below P (T57.setTop (mkF m 79 #[.val (.int p0), .val (.int p1), .val (.int (1 : Int32)), .val (.int (0 : Int32)), .val (.ref aT), .val (.ref aF)] [(.int (1 : Int32))]))
      refine Go.s (fun kz => XS.iloadN X57.here hx rfl (hb hby at_79) rfl kz) ?_
      show Go p.tables e below P (T57.setTop (mkF m 80 #[.val (.int p0), .val (.int p1), .val (.int (1 : Int32)), .val (.int (0 : Int32)), .val (.ref aT), .val (.ref aF)] [(.int (1 : Int32)), (.int (1 : Int32))]))
      refine Go.s (fun kz => XS.icmpYes X57.here hx rfl (pc0 := 80) (pc' := 85) rfl (hb hby at_80) rfl (XT.ii_eq_t (by decide)) (by decide) (by decide) kz) ?_
      show Go p.tables e below P (T57.setTop (mkF m 85 #[.val (.int p0), .val (.int p1), .val (.int (1 : Int32)), .val (.int (0 : Int32)), .val (.ref aT), .val (.ref aF)] []))
      refine Go.s (fun kz => XS.aload X57.here hx rfl (hb hby at_85) rfl rfl kz) ?_
      show Go p.tables e below P (T57.setTop (mkF m 87 #[.val (.int p0), .val (.int p1), .val (.int (1 : Int32)), .val (.int (0 : Int32)), .val (.ref aT), .val (.ref aF)] [(.ref aF)]))
      obtain ⟨T58, X58, e58, st58⟩ := getS2 X57 hx hZ hown (host := "") (Or.inl (hw _ (List.mem_of_getElem? (i := 10) rfl))) Via.refl e57 S_T (g := (mkF m 87 #[.val (.int p0), .val (.int p1), .val (.int (1 : Int32)), .val (.int (0 : Int32)), .val (.ref aT), .val (.ref aF)] [(.ref aF)])) rfl (hb hby at_87)
      refine Go.s (fun {t} => st58 t) ?_
      show Go p.tables e below P (T58.setTop (mkF m 90 #[.val (.int p0), .val (.int p1), .val (.int (1 : Int32)), .val (.int (0 : Int32)), .val (.ref aT), .val (.ref aF)] [(.ref aT), (.ref aF)]))
      refine Go.s (fun kz => XT.acmpYes X58.here hx rfl (pc0 := 90) (pc' := 97) rfl (hb hby at_90) rfl rfl rfl (XT.aa_ne_t (fun q => (Ne.symm hTF) (Value.ref.inj q))) (by decide) (by decide) kz) ?_
      show Go p.tables e below P (T58.setTop (mkF m 97 #[.val (.int p0), .val (.int p1), .val (.int (1 : Int32)), .val (.int (0 : Int32)), .val (.ref aT), .val (.ref aF)] []))
      refine Go.s (fun kz => XS.iconst X58.here hx rfl (hb hby at_97) kz) ?_
      refine Go.s (fun kz => XS.iloadN X58.here hx rfl (hb hby at_98) rfl kz) ?_
      show Go p.tables e below P (T58.setTop (mkF m 99 #[.val (.int p0), .val (.int p1), .val (.int (1 : Int32)), .val (.int (0 : Int32)), .val (.ref aT), .val (.ref aF)] [(.int (0 : Int32)), (.int (0 : Int32))]))
      refine Go.s (fun kz => XS.icmpYes X58.here hx rfl (pc0 := 99) (pc' := 104) rfl (hb hby at_99) rfl (XT.ii_eq_t (by decide)) (by decide) (by decide) kz) ?_
      show Go p.tables e below P (T58.setTop (mkF m 104 #[.val (.int p0), .val (.int p1), .val (.int (1 : Int32)), .val (.int (0 : Int32)), .val (.ref aT), .val (.ref aF)] []))
      refine Go.s (fun kz => XS.aload X58.here hx rfl (hb hby at_104) rfl rfl kz) ?_
      show Go p.tables e below P (T58.setTop (mkF m 106 #[.val (.int p0), .val (.int p1), .val (.int (1 : Int32)), .val (.int (0 : Int32)), .val (.ref aT), .val (.ref aF)] [(.ref aT)]))
      obtain ⟨v59, T59, L59, X59, Q59, st59⟩ := Con.virtual (own_rm2_T l Z a0 hw [] aT aF h0 n0 Z0 S_F E_T F_T) X58 hx hZ (W := 0) hown (hw _ (List.mem_of_getElem? (i := 11) rfl)) (hw _ (List.mem_of_getElem? (i := 12) rfl)) (hw _ (List.mem_of_getElem? (i := 14) rfl)) (hw _ (List.mem_of_getElem? (i := 13) rfl)) (hw _ (List.mem_of_getElem? (i := 2) rfl)) (hw _ (List.mem_of_getElem? (i := 15) rfl)) (by decide) (by decide) (by decide) (by decide) (by decide) e58 (g := (mkF m 106 #[.val (.int p0), .val (.int p1), .val (.int (1 : Int32)), .val (.int (0 : Int32)), .val (.ref aT), .val (.ref aF)] [(.ref aT)])) rfl (by rw [hml]; rfl) E_T (argsL := []) (rest := []) rfl (lenOf own_pd_3 rfl) rfl (by show 2 * 0 + _ ≤ _; exact Nat.le_of_eq rfl) (hb hby at_106)
      obtain ⟨rfl, Nq59, e59⟩ := Q59
      have N59 := Fr.app N54 Nq59
      refine Go.s (fun {t} => st59) ?_
      refine Go.s (fun kz => XS.iloadN X59.here hx rfl (hb hby at_109) rfl kz) ?_
      show Go p.tables e below P (T59.setTop (mkF m 110 #[.val (.int p0), .val (.int p1), .val (.int (1 : Int32)), .val (.int (0 : Int32)), .val (.ref aT), .val (.ref aF)] [(.int (1 : Int32)), (.ref aF)]))
      refine Go.s (fun kz => XS.ifYes X59.here hx rfl (pc0 := 110) (pc' := 117) rfl (hb hby at_110) rfl (XT.i0_ne_t (by decide)) (by decide) (by decide) kz) ?_
      show Go p.tables e below P (T59.setTop (mkF m 117 #[.val (.int p0), .val (.int p1), .val (.int (1 : Int32)), .val (.int (0 : Int32)), .val (.ref aT), .val (.ref aF)] [(.ref aF)]))
      refine Go.s (fun kz => XS.iconst X59.here hx rfl (hb hby at_117) kz) ?_
      show Go p.tables e below P (T59.setTop (mkF m 118 #[.val (.int p0), .val (.int p1), .val (.int (1 : Int32)), .val (.int (0 : Int32)), .val (.ref aT), .val (.ref aF)] [(.int (0 : Int32)), (.ref aF)]))
      obtain ⟨v60, T60, L60, X60, Q60, st60⟩ := Con.static (own_rm1_0 l Z a0 hw [] aF h0 n0 Z0 S_F) X59 hx hZ (W := 1) hown (hw _ (List.mem_of_getElem? (i := 0) rfl)) (hw _ (List.mem_of_getElem? (i := 1) rfl)) (hw _ (List.mem_of_getElem? (i := 2) rfl)) (hw _ (List.mem_of_getElem? (i := 3) rfl)) (by decide) (by decide) (by decide) (by decide) (by decide) e59 (g := (mkF m 118 #[.val (.int p0), .val (.int p1), .val (.int (1 : Int32)), .val (.int (0 : Int32)), .val (.ref aT), .val (.ref aF)] [(.int (0 : Int32)), (.ref aF)])) rfl (by rw [hml]; rfl) (argsL := [(.int (0 : Int32))]) (rest := [(.ref aF)]) rfl (lenOf own_pd_2 rfl) rfl (by show 2 * 0 + _ ≤ _; exact Nat.le_of_eq rfl) (hb hby at_118)
      obtain ⟨rfl, Nq60, e60⟩ := Q60
      have N60 := Fr.app N59 Nq60
      refine Go.s (fun {t} => st60) ?_
      show Go p.tables e below P (T60.setTop (mkF m 121 #[.val (.int p0), .val (.int p1), .val (.int (1 : Int32)), .val (.int (0 : Int32)), .val (.ref aT), .val (.ref aF)] [(.ref aF), (.ref aF)]))
      refine Go.s (fun kz => XT.acmpYes X60.here hx rfl (pc0 := 121) (pc' := 126) rfl (hb hby at_121) rfl rfl rfl (XT.aa_eq_t rfl) (by decide) (by decide) kz) ?_
      show Go p.tables e below P (T60.setTop (mkF m 126 #[.val (.int p0), .val (.int p1), .val (.int (1 : Int32)), .val (.int (0 : Int32)), .val (.ref aT), .val (.ref aF)] []))
      refine Go.s (fun kz => XS.aload X60.here hx rfl (hb hby at_126) rfl rfl kz) ?_
      refine Go.s (fun kz => XS.aload X60.here hx rfl (hb hby at_128) rfl rfl kz) ?_
      show Go p.tables e below P (T60.setTop (mkF m 130 #[.val (.int p0), .val (.int p1), .val (.int (1 : Int32)), .val (.int (0 : Int32)), .val (.ref aT), .val (.ref aF)] [(.ref aF), (.ref aT)]))
      obtain ⟨v61, T61, L61, X61, Q61, hS, hZ, hown, st61⟩ := ConW.virtual (own_rm4_TF l Z a0 hw [] aT aF aU h0 n0 Z0 S_T S_F S_U hTF hTU hFU) X60 hx hZ (W := 0) hown hS hk (hw _ (List.mem_of_getElem? (i := 25) rfl)) (hw _ (List.mem_of_getElem? (i := 26) rfl)) (hw _ (List.mem_of_getElem? (i := 28) rfl)) (hw _ (List.mem_of_getElem? (i := 27) rfl)) (hw _ (List.mem_of_getElem? (i := 2) rfl)) (hw _ (List.mem_of_getElem? (i := 29) rfl)) (by decide) (by decide) (by decide) (by decide) (by decide) e60 (g := (mkF m 130 #[.val (.int p0), .val (.int p1), .val (.int (1 : Int32)), .val (.int (0 : Int32)), .val (.ref aT), .val (.ref aF)] [(.ref aF), (.ref aT)])) rfl (by rw [hml]; rfl) E_T (argsL := [(.ref aF)]) (rest := []) rfl (lenOf own_pd_4 rfl) rfl (by show 2 * 0 + _ ≤ _; exact Nat.le_of_eq rfl) (hb hby at_130)
      obtain ⟨H61, e61⟩ : ∃ z, T61.heap = z := ⟨_, rfl⟩
      rw [e61] at Q61
      obtain ⟨rfl, Nq61, Eq61⟩ := Q61
      have N61 := Fr.app N60 Nq61
      have Zs61 := Nat.le_trans Z0 Eq61.1
      have hk : T61.heap.size ≤ H61.size := by rw [e61]; exact Nat.le_refl _
      have S_T_62 := Sta.ext Eq61 S_T
      have S_F_63 := Sta.ext Eq61 S_F
      have S_U_64 := Sta.ext Eq61 S_U
      have E_T_65 := Exa.ext Eq61 E_T
      have F_T_66 := Fld.ext Eq61 F_T
      have E_F_67 := Exa.ext Eq61 E_F
      have F_F_68 := Fld.ext Eq61 F_F
      refine Go.s (fun {t} => st61) ?_
      refine Go.s (fun kz => XS.iloadN X61.here hx rfl (hb hby at_133) rfl kz) ?_
      show Go p.tables e below P (T61.setTop (mkF m 134 #[.val (.int p0), .val (.int p1), .val (.int (1 : Int32)), .val (.int (0 : Int32)), .val (.ref aT), .val (.ref aF)] [(.int (1 : Int32)), (.ref aF)]))
      refine Go.s (fun kz => XS.ifNo X61.here hx rfl (hb hby at_134) rfl (XT.i0_eq_f (by decide)) kz) ?_
      show Go p.tables e below P (T61.setTop (mkF m 137 #[.val (.int p0), .val (.int p1), .val (.int (1 : Int32)), .val (.int (0 : Int32)), .val (.ref aT), .val (.ref aF)] [(.ref aF)]))
      refine Go.s (fun kz => XS.iloadN X61.here hx rfl (hb hby at_137) rfl kz) ?_
      show Go p.tables e below P (T61.setTop (mkF m 138 #[.val (.int p0), .val (.int p1), .val (.int (1 : Int32)), .val (.int (0 : Int32)), .val (.ref aT), .val (.ref aF)] [(.int (0 : Int32)), (.ref aF)]))
      refine Go.s (fun kz => XS.ifYes X61.here hx rfl (pc0 := 138) (pc' := 145) rfl (hb hby at_138) rfl (XT.i0_eq_t (by decide)) (by decide) (by decide) kz) ?_
      show Go p.tables e below P (T61.setTop (mkF m 145 #[.val (.int p0), .val (.int p1), .val (.int (1 : Int32)), .val (.int (0 : Int32)), .val (.ref aT), .val (.ref aF)] [(.ref aF)]))
      refine Go.s (fun kz => XS.iconst X61.here hx rfl (hb hby at_145) kz) ?_
      show Go p.tables e below P (T61.setTop (mkF m 146 #[.val (.int p0), .val (.int p1), .val (.int (1 : Int32)), .val (.int (0 : Int32)), .val (.ref aT), .val (.ref aF)] [(.int (0 : Int32)), (.ref aF)]))
      obtain ⟨v69, T69, L69, X69, Q69, st69⟩ := Con.static (own_rm1_0 l Z a0 hw [] aF H61 n0 Zs61 S_F_63) X61 hx hZ (W := 1) hown (hw _ (List.mem_of_getElem? (i := 0) rfl)) (hw _ (List.mem_of_getElem? (i := 1) rfl)) (hw _ (List.mem_of_getElem? (i := 2) rfl)) (hw _ (List.mem_of_getElem? (i := 3) rfl)) (by decide) (by decide) (by decide) (by decide) (by decide) e61 (g := (mkF m 146 #[.val (.int p0), .val (.int p1), .val (.int (1 : Int32)), .val (.int (0 : Int32)), .val (.ref aT), .val (.ref aF)] [(.int (0 : Int32)), (.ref aF)])) rfl (by rw [hml]; rfl) (argsL := [(.int (0 : Int32))]) (rest := [(.ref aF)]) rfl (lenOf own_pd_2 rfl) rfl (by show 2 * 0 + _ ≤ _; exact Nat.le_of_eq rfl) (hb hby at_146)
      obtain ⟨rfl, Nq69, e69⟩ := Q69
      have N69 := Fr.app N61 Nq69
      refine Go.s (fun {t} => st69) ?_
      show Go p.tables e below P (T69.setTop (mkF m 149 #[.val (.int p0), .val (.int p1), .val (.int (1 : Int32)), .val (.int (0 : Int32)), .val (.ref aT), .val (.ref aF)] [(.ref aF), (.ref aF)]))
      refine Go.s (fun kz => XT.acmpYes X69.here hx rfl (pc0 := 149) (pc' := 154) rfl (hb hby at_149) rfl rfl rfl (XT.aa_eq_t rfl) (by decide) (by decide) kz) ?_
      show Go p.tables e below P (T69.setTop (mkF m 154 #[.val (.int p0), .val (.int p1), .val (.int (1 : Int32)), .val (.int (0 : Int32)), .val (.ref aT), .val (.ref aF)] []))
      refine Go.s (fun kz => XS.aload X69.here hx rfl (hb hby at_154) rfl rfl kz) ?_
      refine Go.s (fun kz => XS.aload X69.here hx rfl (hb hby at_156) rfl rfl kz) ?_
      show Go p.tables e below P (T69.setTop (mkF m 158 #[.val (.int p0), .val (.int p1), .val (.int (1 : Int32)), .val (.int (0 : Int32)), .val (.ref aT), .val (.ref aF)] [(.ref aF), (.ref aT)]))
      obtain ⟨v70, T70, L70, X70, Q70, hS, hZ, hown, st70⟩ := ConW.virtual (own_rm6_TF l Z a0 hw [] aT aF aU H61 n0 Zs61 S_T_62 S_F_63 S_U_64 hTF hTU hFU) X69 hx hZ (W := 0) hown hS hk (hw _ (List.mem_of_getElem? (i := 42) rfl)) (hw _ (List.mem_of_getElem? (i := 43) rfl)) (hw _ (List.mem_of_getElem? (i := 45) rfl)) (hw _ (List.mem_of_getElem? (i := 44) rfl)) (hw _ (List.mem_of_getElem? (i := 2) rfl)) (hw _ (List.mem_of_getElem? (i := 46) rfl)) (by decide) (by decide) (by decide) (by decide) (by decide) e69 (g := (mkF m 158 #[.val (.int p0), .val (.int p1), .val (.int (1 : Int32)), .val (.int (0 : Int32)), .val (.ref aT), .val (.ref aF)] [(.ref aF), (.ref aT)])) rfl (by rw [hml]; rfl) E_T_65 (argsL := [(.ref aF)]) (rest := []) rfl (lenOf own_pd_4 rfl) rfl (by show 2 * 0 + _ ≤ _; exact Nat.le_of_eq rfl) (hb hby at_158)
      obtain ⟨H70, e70⟩ : ∃ z, T70.heap = z := ⟨_, rfl⟩
      rw [e70] at Q70
      obtain ⟨rfl, Nq70, Eq70⟩ := Q70
      have N70 := Fr.app N69 Nq70
      have Zs70 := Nat.le_trans Zs61 Eq70.1
      have hk : T70.heap.size ≤ H70.size := by rw [e70]; exact Nat.le_refl _
      have S_T_71 := Sta.ext Eq70 S_T_62
      have S_F_72 := Sta.ext Eq70 S_F_63
      have S_U_73 := Sta.ext Eq70 S_U_64
      have E_T_74 := Exa.ext Eq70 E_T_65
      have F_T_75 := Fld.ext Eq70 F_T_66
      have E_F_76 := Exa.ext Eq70 E_F_67
      have F_F_77 := Fld.ext Eq70 F_F_68
      refine Go.s (fun {t} => st70) ?_
      refine Go.s (fun kz => XS.iloadN X70.here hx rfl (hb hby at_161) rfl kz) ?_
      show Go p.tables e below P (T70.setTop (mkF m 162 #[.val (.int p0), .val (.int p1), .val (.int (1 : Int32)), .val (.int (0 : Int32)), .val (.ref aT), .val (.ref aF)] [(.int (1 : Int32)), (.ref aT)]))
      refine Go.s (fun kz => XS.ifYes X70.here hx rfl (pc0 := 162) (pc' := 169) rfl (hb hby at_162) rfl (XT.i0_ne_t (by decide)) (by decide) (by decide) kz) ?_
      show Go p.tables e below P (T70.setTop (mkF m 169 #[.val (.int p0), .val (.int p1), .val (.int (1 : Int32)), .val (.int (0 : Int32)), .val (.ref aT), .val (.ref aF)] [(.ref aT)]))
      refine Go.s (fun kz => XS.iconst X70.here hx rfl (hb hby at_169) kz) ?_
      refine Go.s (fun kz => XS.goto X70.here hx rfl (pc0 := 170) (pc' := 174) rfl (hb hby at_170) (by decide) (by decide) kz) ?_
      show Go p.tables e below P (T70.setTop (mkF m 174 #[.val (.int p0), .val (.int p1), .val (.int (1 : Int32)), .val (.int (0 : Int32)), .val (.ref aT), .val (.ref aF)] [(.int (1 : Int32)), (.ref aT)]))
      obtain ⟨v78, T78, L78, X78, Q78, st78⟩ := Con.static (own_rm1_1 l Z a0 hw [] aT H70 n0 Zs70 S_T_71) X70 hx hZ (W := 1) hown (hw _ (List.mem_of_getElem? (i := 0) rfl)) (hw _ (List.mem_of_getElem? (i := 1) rfl)) (hw _ (List.mem_of_getElem? (i := 2) rfl)) (hw _ (List.mem_of_getElem? (i := 3) rfl)) (by decide) (by decide) (by decide) (by decide) (by decide) e70 (g := (mkF m 174 #[.val (.int p0), .val (.int p1), .val (.int (1 : Int32)), .val (.int (0 : Int32)), .val (.ref aT), .val (.ref aF)] [(.int (1 : Int32)), (.ref aT)])) rfl (by rw [hml]; rfl) (argsL := [(.int (1 : Int32))]) (rest := [(.ref aT)]) rfl (lenOf own_pd_2 rfl) rfl (by show 2 * 0 + _ ≤ _; exact Nat.le_of_eq rfl) (hb hby at_174)
      obtain ⟨rfl, Nq78, e78⟩ := Q78
      have N78 := Fr.app N70 Nq78
      refine Go.s (fun {t} => st78) ?_
      show Go p.tables e below P (T78.setTop (mkF m 177 #[.val (.int p0), .val (.int p1), .val (.int (1 : Int32)), .val (.int (0 : Int32)), .val (.ref aT), .val (.ref aF)] [(.ref aT), (.ref aT)]))
      refine Go.s (fun kz => XT.acmpNo X78.here hx rfl (hb hby at_177) rfl rfl rfl (XT.aa_ne_f rfl) kz) ?_
      show Go p.tables e below P (T78.setTop (mkF m 180 #[.val (.int p0), .val (.int p1), .val (.int (1 : Int32)), .val (.int (0 : Int32)), .val (.ref aT), .val (.ref aF)] []))
      refine Go.s (fun kz => XS.iconst X78.here hx rfl (hb hby at_180) kz) ?_
      refine Go.s (fun kz => XS.goto X78.here hx rfl (pc0 := 181) (pc' := 185) rfl (hb hby at_181) (by decide) (by decide) kz) ?_
      show Go p.tables e below P (T78.setTop (mkF m 185 #[.val (.int p0), .val (.int p1), .val (.int (1 : Int32)), .val (.int (0 : Int32)), .val (.ref aT), .val (.ref aF)] [(.int (1 : Int32))]))
      exact Go.retZW X78 hx hlk hS (by rw [e78]; exact hk) hret (by decide) (hb hby at_185) (fun U hU hF => hP U _ _ ⟨rfl, N78⟩ ⟨hF.1, hF.2.1, hF.2.2.1, hF.2.2.2.mono (by decide) (by decide)⟩)
    · skip
      refine Go.s (fun kz => XS.ifNo X0.here hx rfl (hb hby at_15) rfl (XT.i0_eq_f hc15) kz) ?_
      show Go p.tables e below P (s₁.setTop (mkF m 18 #[.val (.int p0), .val (.int p1), .val (.int (1 : Int32)), .unset, .unset, .unset] []))
      refine Go.s (fun kz => XS.iconst X0.here hx rfl (hb hby at_18) kz) ?_
      refine Go.s (fun kz => XS.goto X0.here hx rfl (pc0 := 19) (pc' := 23) rfl (hb hby at_19) (by decide) (by decide) kz) ?_
      show Go p.tables e below P (s₁.setTop (mkF m 23 #[.val (.int p0), .val (.int p1), .val (.int (1 : Int32)), .unset, .unset, .unset] [(.int (1 : Int32))]))
      refine Go.s (fun kz => XS.istoreN X0.here hx rfl (hb hby at_23) rfl (l' := #[.val (.int p0), .val (.int p1), .val (.int (1 : Int32)), .val (.int (1 : Int32)), .unset, .unset]) rfl kz) ?_
      refine Go.s (fun kz => XS.iloadN X0.here hx rfl (hb hby at_24) rfl kz) ?_
      show Go p.tables e below P (s₁.setTop (mkF m 25 #[.val (.int p0), .val (.int p1), .val (.int (1 : Int32)), .val (.int (1 : Int32)), .unset, .unset] [(.int (1 : Int32))]))
      obtain ⟨v79, T79, L79, X79, Q79, st79⟩ := Con.static (own_rm1_1 l Z a0 hw [] aT h0 n0 Z0 S_T) X0 hx hZ (W := 0) hown (hw _ (List.mem_of_getElem? (i := 0) rfl)) (hw _ (List.mem_of_getElem? (i := 1) rfl)) (hw _ (List.mem_of_getElem? (i := 2) rfl)) (hw _ (List.mem_of_getElem? (i := 3) rfl)) (by decide) (by decide) (by decide) (by decide) (by decide) e0 (g := (mkF m 25 #[.val (.int p0), .val (.int p1), .val (.int (1 : Int32)), .val (.int (1 : Int32)), .unset, .unset] [(.int (1 : Int32))])) rfl (by rw [hml]; rfl) (argsL := [(.int (1 : Int32))]) (rest := []) rfl (lenOf own_pd_2 rfl) rfl (by show 2 * 0 + _ ≤ _; exact Nat.le_of_eq rfl) (hb hby at_25)
      obtain ⟨rfl, Nq79, e79⟩ := Q79
      have N79 := Fr.app N0 Nq79
      refine Go.s (fun {t} => st79) ?_
      refine Go.s (fun kz => XS.astore X79.here hx rfl (hb hby at_28) rfl rfl (l' := #[.val (.int p0), .val (.int p1), .val (.int (1 : Int32)), .val (.int (1 : Int32)), .val (.ref aT), .unset]) rfl kz) ?_
      refine Go.s (fun kz => XS.iloadN X79.here hx rfl (hb hby at_30) rfl kz) ?_
      show Go p.tables e below P (T79.setTop (mkF m 31 #[.val (.int p0), .val (.int p1), .val (.int (1 : Int32)), .val (.int (1 : Int32)), .val (.ref aT), .unset] [(.int (1 : Int32))]))
      obtain ⟨v80, T80, L80, X80, Q80, st80⟩ := Con.static (own_rm1_1 l Z a0 hw [] aT h0 n0 Z0 S_T) X79 hx hZ (W := 0) hown (hw _ (List.mem_of_getElem? (i := 0) rfl)) (hw _ (List.mem_of_getElem? (i := 1) rfl)) (hw _ (List.mem_of_getElem? (i := 2) rfl)) (hw _ (List.mem_of_getElem? (i := 3) rfl)) (by decide) (by decide) (by decide) (by decide) (by decide) e79 (g := (mkF m 31 #[.val (.int p0), .val (.int p1), .val (.int (1 : Int32)), .val (.int (1 : Int32)), .val (.ref aT), .unset] [(.int (1 : Int32))])) rfl (by rw [hml]; rfl) (argsL := [(.int (1 : Int32))]) (rest := []) rfl (lenOf own_pd_2 rfl) rfl (by show 2 * 0 + _ ≤ _; exact Nat.le_of_eq rfl) (hb hby at_31)
      obtain ⟨rfl, Nq80, e80⟩ := Q80
      have N80 := Fr.app N79 Nq80
      refine Go.s (fun {t} => st80) ?_
      refine Go.s (fun kz => XS.astore X80.here hx rfl (hb hby at_34) rfl rfl (l' := #[.val (.int p0), .val (.int p1), .val (.int (1 : Int32)), .val (.int (1 : Int32)), .val (.ref aT), .val (.ref aT)]) rfl kz) ?_
      refine Go.s (fun kz => XS.aload X80.here hx rfl (hb hby at_36) rfl rfl kz) ?_
      show Go p.tables e below P (T80.setTop (mkF m 38 #[.val (.int p0), .val (.int p1), .val (.int (1 : Int32)), .val (.int (1 : Int32)), .val (.ref aT), .val (.ref aT)] [(.ref aT)]))
      refine Go.s (fun kz => XS.ifnullNo X80.here hx rfl (hb hby at_38) rfl kz) ?_
      show Go p.tables e below P (T80.setTop (mkF m 41 #[.val (.int p0), .val (.int p1), .val (.int (1 : Int32)), .val (.int (1 : Int32)), .val (.ref aT), .val (.ref aT)] []))
      refine Go.s (fun kz => XS.aload X80.here hx rfl (hb hby at_41) rfl rfl kz) ?_
      show Go p.tables e below P (T80.setTop (mkF m 43 #[.val (.int p0), .val (.int p1), .val (.int (1 : Int32)), .val (.int (1 : Int32)), .val (.ref aT), .val (.ref aT)] [(.ref aT)]))
      refine Go.s (fun kz => XT.ifnonnullYes X80.here hx rfl (pc0 := 43) (pc' := 48) rfl (hb hby at_43) rfl (by decide) (by decide) kz) ?_
      show Go p.tables e below P (T80.setTop (mkF m 48 #[.val (.int p0), .val (.int p1), .val (.int (1 : Int32)), .val (.int (1 : Int32)), .val (.ref aT), .val (.ref aT)] []))
      refine Go.s (fun kz => XS.aload X80.here hx rfl (hb hby at_48) rfl rfl kz) ?_
      show Go p.tables e below P (T80.setTop (mkF m 50 #[.val (.int p0), .val (.int p1), .val (.int (1 : Int32)), .val (.int (1 : Int32)), .val (.ref aT), .val (.ref aT)] [(.ref aT)]))
      obtain ⟨T81, X81, e81, st81⟩ := getS2 X80 hx hZ hown (host := "") (Or.inl (hw _ (List.mem_of_getElem? (i := 8) rfl))) Via.refl e80 S_U (g := (mkF m 50 #[.val (.int p0), .val (.int p1), .val (.int (1 : Int32)), .val (.int (1 : Int32)), .val (.ref aT), .val (.ref aT)] [(.ref aT)])) rfl (hb hby at_50)
      refine Go.s (fun {t} => st81 t) ?_
      show Go p.tables e below P (T81.setTop (mkF m 53 #[.val (.int p0), .val (.int p1), .val (.int (1 : Int32)), .val (.int (1 : Int32)), .val (.ref aT), .val (.ref aT)] [(.ref aU), (.ref aT)]))
      refine Go.s (fun kz => XT.acmpNo X81.here hx rfl (hb hby at_53) rfl rfl rfl (XT.aa_eq_f (fun q => hTU (Value.ref.inj q))) kz) ?_
      show Go p.tables e below P (T81.setTop (mkF m 56 #[.val (.int p0), .val (.int p1), .val (.int (1 : Int32)), .val (.int (1 : Int32)), .val (.ref aT), .val (.ref aT)] []))
      refine Go.s (fun kz => XS.aload X81.here hx rfl (hb hby at_56) rfl rfl kz) ?_
      show Go p.tables e below P (T81.setTop (mkF m 58 #[.val (.int p0), .val (.int p1), .val (.int (1 : Int32)), .val (.int (1 : Int32)), .val (.ref aT), .val (.ref aT)] [(.ref aT)]))
      obtain ⟨T82, X82, e82, st82⟩ := getS2 X81 hx hZ hown (host := "") (Or.inl (hw _ (List.mem_of_getElem? (i := 8) rfl))) Via.refl e81 S_U (g := (mkF m 58 #[.val (.int p0), .val (.int p1), .val (.int (1 : Int32)), .val (.int (1 : Int32)), .val (.ref aT), .val (.ref aT)] [(.ref aT)])) rfl (hb hby at_58)
      refine Go.s (fun {t} => st82 t) ?_
      show Go p.tables e below P (T82.setTop (mkF m 61 #[.val (.int p0), .val (.int p1), .val (.int (1 : Int32)), .val (.int (1 : Int32)), .val (.ref aT), .val (.ref aT)] [(.ref aU), (.ref aT)]))
      refine Go.s (fun kz => XT.acmpYes X82.here hx rfl (pc0 := 61) (pc' := 66) rfl (hb hby at_61) rfl rfl rfl (XT.aa_ne_t (fun q => hTU (Value.ref.inj q))) (by decide) (by decide) kz) ?_
      show Go p.tables e below P (T82.setTop (mkF m 66 #[.val (.int p0), .val (.int p1), .val (.int (1 : Int32)), .val (.int (1 : Int32)), .val (.ref aT), .val (.ref aT)] []))
      refine Go.s (fun kz => XS.aload X82.here hx rfl (hb hby at_66) rfl rfl kz) ?_
      show Go p.tables e below P (T82.setTop (mkF m 68 #[.val (.int p0), .val (.int p1), .val (.int (1 : Int32)), .val (.int (1 : Int32)), .val (.ref aT), .val (.ref aT)] [(.ref aT)]))
      obtain ⟨T83, X83, e83, st83⟩ := getS2 X82 hx hZ hown (host := "") (Or.inl (hw _ (List.mem_of_getElem? (i := 10) rfl))) Via.refl e82 S_T (g := (mkF m 68 #[.val (.int p0), .val (.int p1), .val (.int (1 : Int32)), .val (.int (1 : Int32)), .val (.ref aT), .val (.ref aT)] [(.ref aT)])) rfl (hb hby at_68)
      refine Go.s (fun {t} => st83 t) ?_
      show Go p.tables e below P (T83.setTop (mkF m 71 #[.val (.int p0), .val (.int p1), .val (.int (1 : Int32)), .val (.int (1 : Int32)), .val (.ref aT), .val (.ref aT)] [(.ref aT), (.ref aT)]))
      refine Go.s (fun kz => XT.acmpNo X83.here hx rfl (hb hby at_71) rfl rfl rfl (XT.aa_ne_f rfl) kz) ?_
      show Go p.tables e below P (T83.setTop (mkF m 74 #[.val (.int p0), .val (.int p1), .val (.int (1 : Int32)), .val (.int (1 : Int32)), .val (.ref aT), .val (.ref aT)] []))
      refine Go.s (fun kz => XS.iconst X83.here hx rfl (hb hby at_74) kz) ?_
      refine Go.s (fun kz => XS.goto X83.here hx rfl (pc0 := 75) (pc' := 79) rfl (hb hby at_75) (by decide) (by decide) kz) ?_
      show Go p.tables e below P (T83.setTop (mkF m 79 #[.val (.int p0), .val (.int p1), .val (.int (1 : Int32)), .val (.int (1 : Int32)), .val (.ref aT), .val (.ref aT)] [(.int (1 : Int32))]))
      refine Go.s (fun kz => XS.iloadN X83.here hx rfl (hb hby at_79) rfl kz) ?_
      show Go p.tables e below P (T83.setTop (mkF m 80 #[.val (.int p0), .val (.int p1), .val (.int (1 : Int32)), .val (.int (1 : Int32)), .val (.ref aT), .val (.ref aT)] [(.int (1 : Int32)), (.int (1 : Int32))]))
      refine Go.s (fun kz => XS.icmpYes X83.here hx rfl (pc0 := 80) (pc' := 85) rfl (hb hby at_80) rfl (XT.ii_eq_t (by decide)) (by decide) (by decide) kz) ?_
      show Go p.tables e below P (T83.setTop (mkF m 85 #[.val (.int p0), .val (.int p1), .val (.int (1 : Int32)), .val (.int (1 : Int32)), .val (.ref aT), .val (.ref aT)] []))
      refine Go.s (fun kz => XS.aload X83.here hx rfl (hb hby at_85) rfl rfl kz) ?_
      show Go p.tables e below P (T83.setTop (mkF m 87 #[.val (.int p0), .val (.int p1), .val (.int (1 : Int32)), .val (.int (1 : Int32)), .val (.ref aT), .val (.ref aT)] [(.ref aT)]))
      obtain ⟨T84, X84, e84, st84⟩ := getS2 X83 hx hZ hown (host := "") (Or.inl (hw _ (List.mem_of_getElem? (i := 10) rfl))) Via.refl e83 S_T (g := (mkF m 87 #[.val (.int p0), .val (.int p1), .val (.int (1 : Int32)), .val (.int (1 : Int32)), .val (.ref aT), .val (.ref aT)] [(.ref aT)])) rfl (hb hby at_87)
      refine Go.s (fun {t} => st84 t) ?_
      show Go p.tables e below P (T84.setTop (mkF m 90 #[.val (.int p0), .val (.int p1), .val (.int (1 : Int32)), .val (.int (1 : Int32)), .val (.ref aT), .val (.ref aT)] [(.ref aT), (.ref aT)]))
      refine Go.s (fun kz => XT.acmpNo X84.here hx rfl (hb hby at_90) rfl rfl rfl (XT.aa_ne_f rfl) kz) ?_
      show Go p.tables e below P (T84.setTop (mkF m 93 #[.val (.int p0), .val (.int p1), .val (.int (1 : Int32)), .val (.int (1 : Int32)), .val (.ref aT), .val (.ref aT)] []))
      refine Go.s (fun kz => XS.iconst X84.here hx rfl (hb hby at_93) kz) ?_
      refine Go.s (fun kz => XS.goto X84.here hx rfl (pc0 := 94) (pc' := 98) rfl (hb hby at_94) (by decide) (by decide) kz) ?_
      show Go p.tables e below P (T84.setTop (mkF m 98 #[.val (.int p0), .val (.int p1), .val (.int (1 : Int32)), .val (.int (1 : Int32)), .val (.ref aT), .val (.ref aT)] [(.int (1 : Int32))]))
      refine Go.s (fun kz => XS.iloadN X84.here hx rfl (hb hby at_98) rfl kz) ?_
      show Go p.tables e below P (T84.setTop (mkF m 99 #[.val (.int p0), .val (.int p1), .val (.int (1 : Int32)), .val (.int (1 : Int32)), .val (.ref aT), .val (.ref aT)] [(.int (1 : Int32)), (.int (1 : Int32))]))
      refine Go.s (fun kz => XS.icmpYes X84.here hx rfl (pc0 := 99) (pc' := 104) rfl (hb hby at_99) rfl (XT.ii_eq_t (by decide)) (by decide) (by decide) kz) ?_
      show Go p.tables e below P (T84.setTop (mkF m 104 #[.val (.int p0), .val (.int p1), .val (.int (1 : Int32)), .val (.int (1 : Int32)), .val (.ref aT), .val (.ref aT)] []))
      refine Go.s (fun kz => XS.aload X84.here hx rfl (hb hby at_104) rfl rfl kz) ?_
      show Go p.tables e below P (T84.setTop (mkF m 106 #[.val (.int p0), .val (.int p1), .val (.int (1 : Int32)), .val (.int (1 : Int32)), .val (.ref aT), .val (.ref aT)] [(.ref aT)]))
      obtain ⟨v85, T85, L85, X85, Q85, st85⟩ := Con.virtual (own_rm2_T l Z a0 hw [] aT aF h0 n0 Z0 S_F E_T F_T) X84 hx hZ (W := 0) hown (hw _ (List.mem_of_getElem? (i := 11) rfl)) (hw _ (List.mem_of_getElem? (i := 12) rfl)) (hw _ (List.mem_of_getElem? (i := 14) rfl)) (hw _ (List.mem_of_getElem? (i := 13) rfl)) (hw _ (List.mem_of_getElem? (i := 2) rfl)) (hw _ (List.mem_of_getElem? (i := 15) rfl)) (by decide) (by decide) (by decide) (by decide) (by decide) e84 (g := (mkF m 106 #[.val (.int p0), .val (.int p1), .val (.int (1 : Int32)), .val (.int (1 : Int32)), .val (.ref aT), .val (.ref aT)] [(.ref aT)])) rfl (by rw [hml]; rfl) E_T (argsL := []) (rest := []) rfl (lenOf own_pd_3 rfl) rfl (by show 2 * 0 + _ ≤ _; exact Nat.le_of_eq rfl) (hb hby at_106)
      obtain ⟨rfl, Nq85, e85⟩ := Q85
      have N85 := Fr.app N80 Nq85
      refine Go.s (fun {t} => st85) ?_
      refine Go.s (fun kz => XS.iloadN X85.here hx rfl (hb hby at_109) rfl kz) ?_
      show Go p.tables e below P (T85.setTop (mkF m 110 #[.val (.int p0), .val (.int p1), .val (.int (1 : Int32)), .val (.int (1 : Int32)), .val (.ref aT), .val (.ref aT)] [(.int (1 : Int32)), (.ref aF)]))
      refine Go.s (fun kz => XS.ifYes X85.here hx rfl (pc0 := 110) (pc' := 117) rfl (hb hby at_110) rfl (XT.i0_ne_t (by decide)) (by decide) (by decide) kz) ?_
      show Go p.tables e below P (T85.setTop (mkF m 117 #[.val (.int p0), .val (.int p1), .val (.int (1 : Int32)), .val (.int (1 : Int32)), .val (.ref aT), .val (.ref aT)] [(.ref aF)]))
      refine Go.s (fun kz => XS.iconst X85.here hx rfl (hb hby at_117) kz) ?_
      show Go p.tables e below P (T85.setTop (mkF m 118 #[.val (.int p0), .val (.int p1), .val (.int (1 : Int32)), .val (.int (1 : Int32)), .val (.ref aT), .val (.ref aT)] [(.int (0 : Int32)), (.ref aF)]))
      obtain ⟨v86, T86, L86, X86, Q86, st86⟩ := Con.static (own_rm1_0 l Z a0 hw [] aF h0 n0 Z0 S_F) X85 hx hZ (W := 1) hown (hw _ (List.mem_of_getElem? (i := 0) rfl)) (hw _ (List.mem_of_getElem? (i := 1) rfl)) (hw _ (List.mem_of_getElem? (i := 2) rfl)) (hw _ (List.mem_of_getElem? (i := 3) rfl)) (by decide) (by decide) (by decide) (by decide) (by decide) e85 (g := (mkF m 118 #[.val (.int p0), .val (.int p1), .val (.int (1 : Int32)), .val (.int (1 : Int32)), .val (.ref aT), .val (.ref aT)] [(.int (0 : Int32)), (.ref aF)])) rfl (by rw [hml]; rfl) (argsL := [(.int (0 : Int32))]) (rest := [(.ref aF)]) rfl (lenOf own_pd_2 rfl) rfl (by show 2 * 0 + _ ≤ _; exact Nat.le_of_eq rfl) (hb hby at_118)
      obtain ⟨rfl, Nq86, e86⟩ := Q86
      have N86 := Fr.app N85 Nq86
      refine Go.s (fun {t} => st86) ?_
      show Go p.tables e below P (T86.setTop (mkF m 121 #[.val (.int p0), .val (.int p1), .val (.int (1 : Int32)), .val (.int (1 : Int32)), .val (.ref aT), .val (.ref aT)] [(.ref aF), (.ref aF)]))
      refine Go.s (fun kz => XT.acmpYes X86.here hx rfl (pc0 := 121) (pc' := 126) rfl (hb hby at_121) rfl rfl rfl (XT.aa_eq_t rfl) (by decide) (by decide) kz) ?_
      show Go p.tables e below P (T86.setTop (mkF m 126 #[.val (.int p0), .val (.int p1), .val (.int (1 : Int32)), .val (.int (1 : Int32)), .val (.ref aT), .val (.ref aT)] []))
      refine Go.s (fun kz => XS.aload X86.here hx rfl (hb hby at_126) rfl rfl kz) ?_
      refine Go.s (fun kz => XS.aload X86.here hx rfl (hb hby at_128) rfl rfl kz) ?_
      show Go p.tables e below P (T86.setTop (mkF m 130 #[.val (.int p0), .val (.int p1), .val (.int (1 : Int32)), .val (.int (1 : Int32)), .val (.ref aT), .val (.ref aT)] [(.ref aT), (.ref aT)]))
      obtain ⟨v87, T87, L87, X87, Q87, hS, hZ, hown, st87⟩ := ConW.virtual (own_rm4_TT l Z a0 hw [] aT aF aU h0 n0 Z0 S_T S_F S_U hTF hTU hFU) X86 hx hZ (W := 0) hown hS hk (hw _ (List.mem_of_getElem? (i := 25) rfl)) (hw _ (List.mem_of_getElem? (i := 26) rfl)) (hw _ (List.mem_of_getElem? (i := 28) rfl)) (hw _ (List.mem_of_getElem? (i := 27) rfl)) (hw _ (List.mem_of_getElem? (i := 2) rfl)) (hw _ (List.mem_of_getElem? (i := 29) rfl)) (by decide) (by decide) (by decide) (by decide) (by decide) e86 (g := (mkF m 130 #[.val (.int p0), .val (.int p1), .val (.int (1 : Int32)), .val (.int (1 : Int32)), .val (.ref aT), .val (.ref aT)] [(.ref aT), (.ref aT)])) rfl (by rw [hml]; rfl) E_T (argsL := [(.ref aT)]) (rest := []) rfl (lenOf own_pd_4 rfl) rfl (by show 2 * 0 + _ ≤ _; exact Nat.le_of_eq rfl) (hb hby at_130)
      obtain ⟨H87, e87⟩ : ∃ z, T87.heap = z := ⟨_, rfl⟩
      rw [e87] at Q87
      obtain ⟨rfl, Nq87, Eq87⟩ := Q87
      have N87 := Fr.app N86 Nq87
      have Zs87 := Nat.le_trans Z0 Eq87.1
      have hk : T87.heap.size ≤ H87.size := by rw [e87]; exact Nat.le_refl _
      have S_T_88 := Sta.ext Eq87 S_T
      have S_F_89 := Sta.ext Eq87 S_F
      have S_U_90 := Sta.ext Eq87 S_U
      have E_T_91 := Exa.ext Eq87 E_T
      have F_T_92 := Fld.ext Eq87 F_T
      have E_F_93 := Exa.ext Eq87 E_F
      have F_F_94 := Fld.ext Eq87 F_F
      refine Go.s (fun {t} => st87) ?_
      refine Go.s (fun kz => XS.iloadN X87.here hx rfl (hb hby at_133) rfl kz) ?_
      show Go p.tables e below P (T87.setTop (mkF m 134 #[.val (.int p0), .val (.int p1), .val (.int (1 : Int32)), .val (.int (1 : Int32)), .val (.ref aT), .val (.ref aT)] [(.int (1 : Int32)), (.ref aT)]))
      refine Go.s (fun kz => XS.ifNo X87.here hx rfl (hb hby at_134) rfl (XT.i0_eq_f (by decide)) kz) ?_
      show Go p.tables e below P (T87.setTop (mkF m 137 #[.val (.int p0), .val (.int p1), .val (.int (1 : Int32)), .val (.int (1 : Int32)), .val (.ref aT), .val (.ref aT)] [(.ref aT)]))
      refine Go.s (fun kz => XS.iloadN X87.here hx rfl (hb hby at_137) rfl kz) ?_
      show Go p.tables e below P (T87.setTop (mkF m 138 #[.val (.int p0), .val (.int p1), .val (.int (1 : Int32)), .val (.int (1 : Int32)), .val (.ref aT), .val (.ref aT)] [(.int (1 : Int32)), (.ref aT)]))
      refine Go.s (fun kz => XS.ifNo X87.here hx rfl (hb hby at_138) rfl (XT.i0_eq_f (by decide)) kz) ?_
      show Go p.tables e below P (T87.setTop (mkF m 141 #[.val (.int p0), .val (.int p1), .val (.int (1 : Int32)), .val (.int (1 : Int32)), .val (.ref aT), .val (.ref aT)] [(.ref aT)]))
      refine Go.s (fun kz => XS.iconst X87.here hx rfl (hb hby at_141) kz) ?_
      refine Go.s (fun kz => XS.goto X87.here hx rfl (pc0 := 142) (pc' := 146) rfl (hb hby at_142) (by decide) (by decide) kz) ?_
      show Go p.tables e below P (T87.setTop (mkF m 146 #[.val (.int p0), .val (.int p1), .val (.int (1 : Int32)), .val (.int (1 : Int32)), .val (.ref aT), .val (.ref aT)] [(.int (1 : Int32)), (.ref aT)]))
      obtain ⟨v95, T95, L95, X95, Q95, st95⟩ := Con.static (own_rm1_1 l Z a0 hw [] aT H87 n0 Zs87 S_T_88) X87 hx hZ (W := 1) hown (hw _ (List.mem_of_getElem? (i := 0) rfl)) (hw _ (List.mem_of_getElem? (i := 1) rfl)) (hw _ (List.mem_of_getElem? (i := 2) rfl)) (hw _ (List.mem_of_getElem? (i := 3) rfl)) (by decide) (by decide) (by decide) (by decide) (by decide) e87 (g := (mkF m 146 #[.val (.int p0), .val (.int p1), .val (.int (1 : Int32)), .val (.int (1 : Int32)), .val (.ref aT), .val (.ref aT)] [(.int (1 : Int32)), (.ref aT)])) rfl (by rw [hml]; rfl) (argsL := [(.int (1 : Int32))]) (rest := [(.ref aT)]) rfl (lenOf own_pd_2 rfl) rfl (by show 2 * 0 + _ ≤ _; exact Nat.le_of_eq rfl) (hb hby at_146)
      obtain ⟨rfl, Nq95, e95⟩ := Q95
      have N95 := Fr.app N87 Nq95
      refine Go.s (fun {t} => st95) ?_
      show Go p.tables e below P (T95.setTop (mkF m 149 #[.val (.int p0), .val (.int p1), .val (.int (1 : Int32)), .val (.int (1 : Int32)), .val (.ref aT), .val (.ref aT)] [(.ref aT), (.ref aT)]))
      refine Go.s (fun kz => XT.acmpYes X95.here hx rfl (pc0 := 149) (pc' := 154) rfl (hb hby at_149) rfl rfl rfl (XT.aa_eq_t rfl) (by decide) (by decide) kz) ?_
      show Go p.tables e below P (T95.setTop (mkF m 154 #[.val (.int p0), .val (.int p1), .val (.int (1 : Int32)), .val (.int (1 : Int32)), .val (.ref aT), .val (.ref aT)] []))
      refine Go.s (fun kz => XS.aload X95.here hx rfl (hb hby at_154) rfl rfl kz) ?_
      refine Go.s (fun kz => XS.aload X95.here hx rfl (hb hby at_156) rfl rfl kz) ?_
      show Go p.tables e below P (T95.setTop (mkF m 158 #[.val (.int p0), .val (.int p1), .val (.int (1 : Int32)), .val (.int (1 : Int32)), .val (.ref aT), .val (.ref aT)] [(.ref aT), (.ref aT)]))
      obtain ⟨v96, T96, L96, X96, Q96, hS, hZ, hown, st96⟩ := ConW.virtual (own_rm6_TT l Z a0 hw [] aT aF aU H87 n0 Zs87 S_T_88 S_F_89 S_U_90 hTF hTU hFU) X95 hx hZ (W := 0) hown hS hk (hw _ (List.mem_of_getElem? (i := 42) rfl)) (hw _ (List.mem_of_getElem? (i := 43) rfl)) (hw _ (List.mem_of_getElem? (i := 45) rfl)) (hw _ (List.mem_of_getElem? (i := 44) rfl)) (hw _ (List.mem_of_getElem? (i := 2) rfl)) (hw _ (List.mem_of_getElem? (i := 46) rfl)) (by decide) (by decide) (by decide) (by decide) (by decide) e95 (g := (mkF m 158 #[.val (.int p0), .val (.int p1), .val (.int (1 : Int32)), .val (.int (1 : Int32)), .val (.ref aT), .val (.ref aT)] [(.ref aT), (.ref aT)])) rfl (by rw [hml]; rfl) E_T_91 (argsL := [(.ref aT)]) (rest := []) rfl (lenOf own_pd_4 rfl) rfl (by show 2 * 0 + _ ≤ _; exact Nat.le_of_eq rfl) (hb hby at_158)
      obtain ⟨H96, e96⟩ : ∃ z, T96.heap = z := ⟨_, rfl⟩
      rw [e96] at Q96
      obtain ⟨rfl, Nq96, Eq96⟩ := Q96
      have N96 := Fr.app N95 Nq96
      have Zs96 := Nat.le_trans Zs87 Eq96.1
      have hk : T96.heap.size ≤ H96.size := by rw [e96]; exact Nat.le_refl _
      have S_T_97 := Sta.ext Eq96 S_T_88
      have S_F_98 := Sta.ext Eq96 S_F_89
      have S_U_99 := Sta.ext Eq96 S_U_90
      have E_T_100 := Exa.ext Eq96 E_T_91
      have F_T_101 := Fld.ext Eq96 F_T_92
      have E_F_102 := Exa.ext Eq96 E_F_93
      have F_F_103 := Fld.ext Eq96 F_F_94
      refine Go.s (fun {t} => st96) ?_
      refine Go.s (fun kz => XS.iloadN X96.here hx rfl (hb hby at_161) rfl kz) ?_
      show Go p.tables e below P (T96.setTop (mkF m 162 #[.val (.int p0), .val (.int p1), .val (.int (1 : Int32)), .val (.int (1 : Int32)), .val (.ref aT), .val (.ref aT)] [(.int (1 : Int32)), (.ref aT)]))
      refine Go.s (fun kz => XS.ifYes X96.here hx rfl (pc0 := 162) (pc' := 169) rfl (hb hby at_162) rfl (XT.i0_ne_t (by decide)) (by decide) (by decide) kz) ?_
      show Go p.tables e below P (T96.setTop (mkF m 169 #[.val (.int p0), .val (.int p1), .val (.int (1 : Int32)), .val (.int (1 : Int32)), .val (.ref aT), .val (.ref aT)] [(.ref aT)]))
      refine Go.s (fun kz => XS.iconst X96.here hx rfl (hb hby at_169) kz) ?_
      refine Go.s (fun kz => XS.goto X96.here hx rfl (pc0 := 170) (pc' := 174) rfl (hb hby at_170) (by decide) (by decide) kz) ?_
      show Go p.tables e below P (T96.setTop (mkF m 174 #[.val (.int p0), .val (.int p1), .val (.int (1 : Int32)), .val (.int (1 : Int32)), .val (.ref aT), .val (.ref aT)] [(.int (1 : Int32)), (.ref aT)]))
      obtain ⟨v104, T104, L104, X104, Q104, st104⟩ := Con.static (own_rm1_1 l Z a0 hw [] aT H96 n0 Zs96 S_T_97) X96 hx hZ (W := 1) hown (hw _ (List.mem_of_getElem? (i := 0) rfl)) (hw _ (List.mem_of_getElem? (i := 1) rfl)) (hw _ (List.mem_of_getElem? (i := 2) rfl)) (hw _ (List.mem_of_getElem? (i := 3) rfl)) (by decide) (by decide) (by decide) (by decide) (by decide) e96 (g := (mkF m 174 #[.val (.int p0), .val (.int p1), .val (.int (1 : Int32)), .val (.int (1 : Int32)), .val (.ref aT), .val (.ref aT)] [(.int (1 : Int32)), (.ref aT)])) rfl (by rw [hml]; rfl) (argsL := [(.int (1 : Int32))]) (rest := [(.ref aT)]) rfl (lenOf own_pd_2 rfl) rfl (by show 2 * 0 + _ ≤ _; exact Nat.le_of_eq rfl) (hb hby at_174)
      obtain ⟨rfl, Nq104, e104⟩ := Q104
      have N104 := Fr.app N96 Nq104
      refine Go.s (fun {t} => st104) ?_
      show Go p.tables e below P (T104.setTop (mkF m 177 #[.val (.int p0), .val (.int p1), .val (.int (1 : Int32)), .val (.int (1 : Int32)), .val (.ref aT), .val (.ref aT)] [(.ref aT), (.ref aT)]))
      refine Go.s (fun kz => XT.acmpNo X104.here hx rfl (hb hby at_177) rfl rfl rfl (XT.aa_ne_f rfl) kz) ?_
      show Go p.tables e below P (T104.setTop (mkF m 180 #[.val (.int p0), .val (.int p1), .val (.int (1 : Int32)), .val (.int (1 : Int32)), .val (.ref aT), .val (.ref aT)] []))
      refine Go.s (fun kz => XS.iconst X104.here hx rfl (hb hby at_180) kz) ?_
      refine Go.s (fun kz => XS.goto X104.here hx rfl (pc0 := 181) (pc' := 185) rfl (hb hby at_181) (by decide) (by decide) kz) ?_
      show Go p.tables e below P (T104.setTop (mkF m 185 #[.val (.int p0), .val (.int p1), .val (.int (1 : Int32)), .val (.int (1 : Int32)), .val (.ref aT), .val (.ref aT)] [(.int (1 : Int32))]))
      exact Go.retZW X104 hx hlk hS (by rw [e104]; exact hk) hret (by decide) (hb hby at_185) (fun U hU hF => hP U _ _ ⟨rfl, N104⟩ ⟨hF.1, hF.2.1, hF.2.2.1, hF.2.2.2.mono (by decide) (by decide)⟩)
set_option maxRecDepth 65536 in
set_option maxHeartbeats 40000000 in
theorem own_comes {Post : Tables → Env → Array Value → State → Outcome → State → Prop} (hpost : ∀ tb e args s v u, (limb_1_1.after args s (.returned v) u = true ∧ limb_1_2.after args s (.returned v) u = true ∧ True) → ReturnedEndW s (.returned v) u (Jvm.fieldLocs frame_1_writes args s ++ Jvm.arrayLocs frame_1_arrays args s ++ Jvm.staticLocs frame_1_statics s) 8 1088 → Post tb e args s (.returned v) u) :
    ArmFor flags0 classFile x code maxLocals ret World_1 tables_1 room_1 Calls_1 rest_1 Pre_1 Post := by
  intro l hfl _ _ p e ha hc hk s m args below hf hA hF happ hP
  obtain ⟨hcalls, hrest, hpre⟩ := hP
  obtain ⟨-, -, -, hnamed, -, -, -, hat⟩ := (Spec.applies_iff hf).mp happ
  obtain ⟨hg, hn⟩ := and_e (Cond.before_iff.mp (show (Jvm.Cond.and given_1 narrow_1).before args s = true from hpre))
  obtain ⟨h1, g1⟩ := and_e hg
  obtain ⟨w0, w1, rfl⟩ : ∃ w0 w1 : Value, args = #[w0, w1] := by
    have hs : args.size = 2 := by simpa [Cond.value, given_1] using h1
    obtain ⟨L⟩ := args
    match L, hs with
    | [w0, w1], _ => exact ⟨w0, w1, rfl⟩
  have hw := fun d (hd : d ∈ tables_1) => atoms_spec (ws := Jvm.Cond.code x code maxLocals ret :: tables_1) hat d (List.mem_cons_of_mem _ hd)
  have hfit : Fit s := fun {y c} hc i hi => by
    obtain ⟨ha, rfl⟩ := Array.getElem?_eq_some_iff.mp hc
    have q := List.all_eq_true.mp ((Array.all_eq_true_iff_forall_mem.mp hF) _ (Array.getElem_mem ha)) i (List.mem_range.mpr hi)
    simpa [Array.getElem?_eq_getElem hi] using q
  obtain ⟨a0, g2⟩ := and_e g1
  obtain ⟨i0, ee0⟩ := is_v a0
  obtain rfl : w0 = (.int i0) := Option.some.inj ee0
  obtain ⟨i1, ee1⟩ := is_v g2
  obtain rfl : w1 = (.int i1) := Option.some.inj ee1
  obtain ⟨nF, m1⟩ := and_e hn
  obtain ⟨nT, m2⟩ := and_e m1
  obtain ⟨nU, m3⟩ := and_e m2
  obtain ⟨oF, m4⟩ := and_e m3
  obtain ⟨oU, oT⟩ := and_e m4
  obtain ⟨aF, eF⟩ := exa_v nF
  obtain ⟨aT, eT⟩ := exa_v nT
  obtain ⟨aU, eU⟩ := exa_v nU
  have ST := Sta.start eT (Or.inr ⟨(hw _ (List.mem_of_getElem? (i := 2) rfl)), (hw _ (List.mem_of_getElem? (i := 7) rfl))⟩)
  have SF := Sta.start eF (Or.inr ⟨(hw _ (List.mem_of_getElem? (i := 2) rfl)), (hw _ (List.mem_of_getElem? (i := 5) rfl))⟩)
  have SU := Sta.start eU (Or.inr ⟨(hw _ (List.mem_of_getElem? (i := 2) rfl)), (hw _ (List.mem_of_getElem? (i := 9) rfl))⟩)
  have fT := own_eq_int oT
  have fF := own_eq_int oF
  have fU := own_eq_int oU
  rw [fld_at eT] at fT
  rw [fld_at eF] at fF
  rw [fld_at eU] at fU
  have hTF : aT ≠ aF := Fld.ne (Fld.start fT) (Fld.start fF) (fun q => by cases q)
  have hTU : aT ≠ aU := Fld.ne (Fld.start fT) (Fld.start fU) (fun q => by cases q)
  have hFU : aF ≠ aU := Fld.ne (Fld.start fF) (Fld.start fU) (fun q => by cases q)
  obtain ⟨n, o, h1, h2, h3, _, L, rfl, ⟨rfl, N⟩, hq⟩ := own_rm0 l s _ hw tables_1 i0 i1 aT aF aU s.heap s.heap.size (Nat.le_refl _) ST SF SU hTF hTU hFU (Exa.start eT nT) (Fld.start fT) (Exa.start eF nF) (Fld.start fF) p e ha hc hk s m _ below hf ((Spec.applies_iff_loose hf).mp happ).1 ⟨rfl, State.Warmed39.refl s, rfl⟩ trivial
  refine ⟨n, _, h1, h2, h3, hpost _ _ _ _ _ _ ⟨Cond.after_iff.mpr rfl, Cond.after_iff.mpr (eq_i res_at (Term.int_eval (1)) rfl), trivial⟩ ⟨hq.1, hq.2.1, hq.2.2.1, (hq.2.2.2.sift fun y hy => Or.inr (N y hy)).mono (by decide) (by decide)⟩⟩
theorem main_1_1 : Claimed_1_1 := own_comes fun _ _ _ _ _ _ h hF => ⟨h.1, hF⟩
theorem main_1_2 : Claimed_1_2 := own_comes fun _ _ _ _ _ _ h hF => ⟨h.2.1, hF⟩
end Jvm.Pilot.@@N@@
namespace Jvm.Pilot.@@N@@
open Jvm Jvm.ClassFile Sem Op Lib Jvm.Free Jvm.Stand Jvm.Pilot.@@N@@.Jvm.D
/-! MADE BY PROGRAM (witnessworld.py) out of the Statement's table words and the real class files: 16 classes; the members and pool entries that the words name. The judged class is class 1, her method 1. -/
namespace start1
open Jvm.ClassFile
def u (s : String) : CpInfo := .utf8 (stringToUtf16 s)
/-- a pool by its gaps: so many unusable entries, then the entry; so many at the end -/
def gap : Nat → List CpInfo → List CpInfo
  | 0, r => r
  | n + 1, r => .unusable :: gap n r
def poolList (es : List (Nat × CpInfo)) (last : Nat) : List CpInfo := es.foldr (fun e r => gap e.1 (e.2 :: r)) (gap last [])
def pool (es : List (Nat × CpInfo)) (last : Nat) : Array CpInfo := ⟨poolList es last⟩
def fileOf (pool : Array CpInfo) (this : Nat) (attrs : Array Attribute := #[]) (ms : Array MethodInfo := #[]) (fl : Nat := 33) (sup : Nat := 0) (ifs : Array Nat := #[]) (fds : Array FieldInfo := #[]) : ClassFile where
  minorVersion := 0
  majorVersion := 65
  constantPool := pool
  accessFlags := fl
  thisClass := this
  superClass := sup
  interfaces := ifs
  fields := fds
  methods := ms
  attributes := attrs
def plain (name : String) (sup : Option ClassId) : Class where
  name := name
  kind := .ordinary
  loader := none
  accessFlags := 33
  super := sup
  interfaces := #[]
  cf := none
  fields := #[]
  methods := #[]
  instanceTypes := #[]
  staticTypes := #[]
  resolved := #[]
  callSites := []
  init := .initialized
  statics := none
  mirror := none

def pool0 : Array CpInfo := pool [(5, u "<init>"), (0, u "()V"), (1, .class_ 10), (1, u "java/lang/Object")] 113

def k0m0 : Method := { name := "<init>", desc := "()V", sig := { parameters := [], returnType := none }, accessFlags := 1, code := none }
/-- java/lang/Object -/
def k0 : Class := { plain "java/lang/Object" none with
  accessFlags := 33
  interfaces := #[]
  cf := some (fileOf pool0 8 #[] #[{ accessFlags := 1, nameIndex := 5, descriptorIndex := 6, attributes := #[] }] 33 0 #[] #[])
  fields := #[]
  methods := #[k0m0]
  instanceTypes := #[]
  staticTypes := #[]
  resolved := Array.replicate 124 none
  statics := none }

def pool1 : Array CpInfo := pool [(2, .class_ 4), (1, u "java/lang/Object"), (0, u "<init>"), (0, u "()V"), (0, .methodref 8 9), (0, .class_ 10), (0, .nameAndType 11 12), (0, u "com/example/impart/impart/Truth"), (0, u "of"), (0, u "(Z)Lcom/example/impart/impart/Truth;"), (0, .fieldref 8 14), (0, .nameAndType 15 16), (0, u "UNKNOWN"), (0, u "Lcom/example/impart/impart/Truth;"), (0, .fieldref 8 18), (0, .nameAndType 19 16), (0, u "TRUE"), (0, .methodref 8 21), (0, .nameAndType 22 23), (0, u "not"), (0, u "()Lcom/example/impart/impart/Truth;"), (0, .methodref 8 25), (0, .nameAndType 26 27), (0, u "and"), (0, u "(Lcom/example/impart/impart/Truth;)Lcom/example/impart/impart/Truth;"), (0, .methodref 8 29), (0, .nameAndType 30 27), (0, u "or"), (0, .class_ 32), (0, u "com/example/impart/impart/TruthOfPinLaw"), (2, u "law"), (0, u "(II)Z")] 3

def k1m0 : Method := { name := "<init>", desc := "()V", sig := { parameters := [], returnType := none }, accessFlags := 1, code := none }
def k1c1 : Code := { maxStack := 2, maxLocals := 6, code := code, exceptionTable := #[], attributes := #[] }
def k1m1 : Method := { name := "law", desc := "(II)Z", sig := { parameters := [.int, .int], returnType := some .boolean }, accessFlags := 9, code := some k1c1 }
/-- com/example/impart/impart/TruthOfPinLaw -/
def k1 : Class := { plain "com/example/impart/impart/TruthOfPinLaw" (some 0) with
  accessFlags := 49
  interfaces := #[]
  cf := some (fileOf pool1 31 #[] #[{ accessFlags := 1, nameIndex := 5, descriptorIndex := 6, attributes := #[] }, { accessFlags := 9, nameIndex := 35, descriptorIndex := 36, attributes := #[] }] 49 2 #[] #[])
  fields := #[]
  methods := #[k1m0, k1m1]
  instanceTypes := #[]
  staticTypes := #[]
  resolved := Array.replicate 40 none
  statics := none }

def pool2 : Array CpInfo := pool [(1, .class_ 2), (0, u "java/lang/constant/Constable"), (0, .class_ 4), (0, u "java/lang/Object")] 6

/-- java/lang/constant/Constable -/
def k2 : Class := { plain "java/lang/constant/Constable" (some 0) with
  accessFlags := 1537
  interfaces := #[]
  cf := some (fileOf pool2 1 #[] #[] 1537 3 #[] #[])
  fields := #[]
  methods := #[]
  instanceTypes := #[]
  staticTypes := #[]
  resolved := Array.replicate 11 none
  statics := none }

def pool3 : Array CpInfo := pool [(1, .class_ 2), (0, u "java/lang/Comparable"), (0, .class_ 4), (0, u "java/lang/Object")] 7

/-- java/lang/Comparable -/
def k3 : Class := { plain "java/lang/Comparable" (some 0) with
  accessFlags := 1537
  interfaces := #[]
  cf := some (fileOf pool3 1 #[] #[] 1537 3 #[] #[])
  fields := #[]
  methods := #[]
  instanceTypes := #[]
  staticTypes := #[]
  resolved := Array.replicate 12 none
  statics := none }

def pool4 : Array CpInfo := pool [(1, .class_ 2), (0, u "java/io/Serializable"), (0, .class_ 4), (0, u "java/lang/Object")] 2

/-- java/io/Serializable -/
def k4 : Class := { plain "java/io/Serializable" (some 0) with
  accessFlags := 1537
  interfaces := #[]
  cf := some (fileOf pool4 1 #[] #[] 1537 3 #[] #[])
  fields := #[]
  methods := #[]
  instanceTypes := #[]
  staticTypes := #[]
  resolved := Array.replicate 7 none
  statics := none }

def pool5 : Array CpInfo := pool [(2, .class_ 4), (1, u "java/lang/Enum"), (0, u "name"), (0, u "Ljava/lang/String;"), (0, .fieldref 2 8), (0, .nameAndType 9 10), (0, u "ordinal"), (0, u "I"), (1, .class_ 14), (1, u "java/lang/Object"), (4, u "hash"), (86, .class_ 108), (1, u "java/lang/Enum$EnumDesc"), (2, .class_ 112), (0, u "java/lang/constant/Constable"), (0, .class_ 114), (0, u "java/lang/Comparable"), (0, .class_ 116), (0, u "java/io/Serializable"), (9, u "()I")] 77

def k5c0 : Code := { maxStack := 1, maxLocals := 1, code := jdk_37_method_2_code, exceptionTable := #[], attributes := #[] }
def k5m0 : Method := { name := "ordinal", desc := "()I", sig := { parameters := [], returnType := some .int }, accessFlags := 17, code := some k5c0 }
/-- java/lang/Enum -/
def k5 : Class := { plain "java/lang/Enum" (some 0) with
  accessFlags := 1057
  interfaces := #[2, 3, 4]
  cf := some (fileOf pool5 2 #[.nestMembers #[106]] #[{ accessFlags := 17, nameIndex := 9, descriptorIndex := 126, attributes := #[] }] 1057 12 #[111, 113, 115] #[{ accessFlags := 18, nameIndex := 5, descriptorIndex := 6, attributes := #[] }, { accessFlags := 18, nameIndex := 9, descriptorIndex := 10, attributes := #[] }, { accessFlags := 2, nameIndex := 19, descriptorIndex := 10, attributes := #[] }])
  fields := #[{ name := "name", type := (.object "java/lang/String"), accessFlags := 18, slot := 0, constantValue := 0 }, { name := "ordinal", type := .int, accessFlags := 18, slot := 1, constantValue := 0 }, { name := "hash", type := .int, accessFlags := 2, slot := 2, constantValue := 0 }]
  methods := #[k5m0]
  instanceTypes := #[(.object "java/lang/String"), .int, .int]
  staticTypes := #[]
  resolved := Array.replicate 204 none
  statics := none }

def pool6 : Array CpInfo := pool [(1, .class_ 2), (0, u "com/example/impart/impart/Truth"), (0, .fieldref 1 4), (0, .nameAndType 5 6), (0, u "TRUE"), (0, u "Lcom/example/impart/impart/Truth;"), (0, .fieldref 1 8), (0, .nameAndType 9 6), (0, u "FALSE"), (0, .fieldref 1 11), (0, .nameAndType 12 6), (0, u "UNKNOWN"), (2, u "$VALUES"), (0, u "[Lcom/example/impart/impart/Truth;"), (6, .class_ 25), (1, u "java/lang/Enum"), (6, .methodref 1 33), (0, .nameAndType 34 35), (0, u "ordinal"), (0, u "()I"), (5, .string 42), (0, u own_text), (0, .methodref 44 45), (0, .class_ 46), (0, .nameAndType 47 48), (0, u "java/util/Objects"), (0, u "requireNonNull"), (0, u "(Ljava/lang/Object;Ljava/lang/String;)Ljava/lang/Object;"), (15, u "of"), (0, u "(Z)Lcom/example/impart/impart/Truth;"), (1, u "not"), (0, u "()Lcom/example/impart/impart/Truth;"), (0, u "and"), (0, u "(Lcom/example/impart/impart/Truth;)Lcom/example/impart/impart/Truth;"), (0, u "or")] 4

def k6c0 : Code := { maxStack := 1, maxLocals := 1, code := prog_54_method_4_code, exceptionTable := #[], attributes := #[] }
def k6m0 : Method := { name := "of", desc := "(Z)Lcom/example/impart/impart/Truth;", sig := { parameters := [.boolean], returnType := some (.object "com/example/impart/impart/Truth") }, accessFlags := 9, code := some k6c0 }
def k6c1 : Code := { maxStack := 4, maxLocals := 1, code := prog_54_method_5_code, exceptionTable := #[], attributes := #[] }
def k6m1 : Method := { name := "not", desc := "()Lcom/example/impart/impart/Truth;", sig := { parameters := [], returnType := some (.object "com/example/impart/impart/Truth") }, accessFlags := 1, code := some k6c1 }
def k6c2 : Code := { maxStack := 2, maxLocals := 2, code := prog_54_method_6_code, exceptionTable := #[], attributes := #[] }
def k6m2 : Method := { name := "and", desc := "(Lcom/example/impart/impart/Truth;)Lcom/example/impart/impart/Truth;", sig := { parameters := [(.object "com/example/impart/impart/Truth")], returnType := some (.object "com/example/impart/impart/Truth") }, accessFlags := 1, code := some k6c2 }
def k6c3 : Code := { maxStack := 2, maxLocals := 2, code := prog_54_method_7_code, exceptionTable := #[], attributes := #[] }
def k6m3 : Method := { name := "or", desc := "(Lcom/example/impart/impart/Truth;)Lcom/example/impart/impart/Truth;", sig := { parameters := [(.object "com/example/impart/impart/Truth")], returnType := some (.object "com/example/impart/impart/Truth") }, accessFlags := 1, code := some k6c3 }
/-- com/example/impart/impart/Truth -/
def k6 : Class := { plain "com/example/impart/impart/Truth" (some 5) with
  accessFlags := 16433
  interfaces := #[]
  cf := some (fileOf pool6 1 #[] #[{ accessFlags := 9, nameIndex := 64, descriptorIndex := 65, attributes := #[] }, { accessFlags := 1, nameIndex := 67, descriptorIndex := 68, attributes := #[] }, { accessFlags := 1, nameIndex := 69, descriptorIndex := 70, attributes := #[] }, { accessFlags := 1, nameIndex := 71, descriptorIndex := 70, attributes := #[] }] 16433 23 #[] #[{ accessFlags := 16409, nameIndex := 5, descriptorIndex := 6, attributes := #[] }, { accessFlags := 16409, nameIndex := 9, descriptorIndex := 6, attributes := #[] }, { accessFlags := 16409, nameIndex := 12, descriptorIndex := 6, attributes := #[] }, { accessFlags := 4122, nameIndex := 15, descriptorIndex := 16, attributes := #[] }])
  fields := #[{ name := "TRUE", type := (.object "com/example/impart/impart/Truth"), accessFlags := 16409, slot := 0, constantValue := 0 }, { name := "FALSE", type := (.object "com/example/impart/impart/Truth"), accessFlags := 16409, slot := 1, constantValue := 0 }, { name := "UNKNOWN", type := (.object "com/example/impart/impart/Truth"), accessFlags := 16409, slot := 2, constantValue := 0 }, { name := "$VALUES", type := (.array (.object "com/example/impart/impart/Truth")), accessFlags := 4122, slot := 3, constantValue := 0 }]
  methods := #[k6m0, k6m1, k6m2, k6m3]
  instanceTypes := #[(.object "java/lang/String"), .int, .int]
  staticTypes := #[(.object "com/example/impart/impart/Truth"), (.object "com/example/impart/impart/Truth"), (.object "com/example/impart/impart/Truth"), (.array (.object "com/example/impart/impart/Truth"))]
  resolved := Array.replicate 76 none
  statics := some 0 }

def pool7 : Array CpInfo := pool [(2, .class_ 4), (1, u "java/lang/CharSequence"), (42, .class_ 48), (0, u "java/lang/CharSequence$1CodePointIterator"), (10, .class_ 60), (0, u "java/lang/CharSequence$1CharIterator"), (5, .class_ 67), (0, u "java/lang/Object")] 63

/-- java/lang/CharSequence -/
def k7 : Class := { plain "java/lang/CharSequence" (some 0) with
  accessFlags := 1537
  interfaces := #[]
  cf := some (fileOf pool7 2 #[.nestMembers #[47, 59]] #[] 1537 66 #[] #[])
  fields := #[]
  methods := #[]
  instanceTypes := #[]
  staticTypes := #[]
  resolved := Array.replicate 131 none
  statics := none }

def pool8 : Array CpInfo := pool [(1, .class_ 2), (0, u "java/lang/constant/ConstantDesc"), (0, .class_ 4), (0, u "java/lang/Object")] 32

/-- java/lang/constant/ConstantDesc -/
def k8 : Class := { plain "java/lang/constant/ConstantDesc" (some 0) with
  accessFlags := 1537
  interfaces := #[]
  cf := some (fileOf pool8 1 #[] #[] 1537 3 #[] #[])
  fields := #[]
  methods := #[]
  instanceTypes := #[]
  staticTypes := #[]
  resolved := Array.replicate 37 none
  statics := none }

def pool9 : Array CpInfo := pool [(2, .class_ 4), (1, u "java/lang/Object"), (0, u "<init>"), (0, u "()V"), (3, .class_ 12), (1, u "java/lang/String"), (0, u "value"), (0, u "[B"), (2, u "coder"), (0, u "B"), (2, u "hash"), (0, u "I"), (2, u "hashIsZero"), (0, u "Z"), (13, u "COMPACT_STRINGS"), (534, .class_ 576), (0, u "java/lang/CharSequence"), (22, u "CASE_INSENSITIVE_ORDER"), (0, u "Ljava/util/Comparator;"), (500, u "serialPersistentFields"), (0, u "[Ljava/io/ObjectStreamField;"), (0, .class_ 1104), (0, u "java/lang/String$CaseInsensitiveComparator"), (1, .class_ 1107), (0, u "java/io/Serializable"), (0, .class_ 1109), (0, u "java/lang/Comparable"), (0, .class_ 1111), (0, u "java/lang/constant/Constable"), (0, .class_ 1113), (0, u "java/lang/constant/ConstantDesc"), (2, u "serialVersionUID"), (0, u "J"), (3, u "REPL"), (0, u "C"), (2, u "LATIN1"), (1, u "UTF16")] 323

def k9m0 : Method := { name := "<init>", desc := "()V", sig := { parameters := [], returnType := none }, accessFlags := 1, code := none }
/-- java/lang/String -/
def k9 : Class := { plain "java/lang/String" (some 0) with
  accessFlags := 49
  interfaces := #[4, 3, 7, 2, 8]
  cf := some (fileOf pool9 10 #[.nestMembers #[1103]] #[{ accessFlags := 1, nameIndex := 5, descriptorIndex := 6, attributes := #[] }] 49 2 #[1106, 1108, 575, 1110, 1112] #[{ accessFlags := 18, nameIndex := 13, descriptorIndex := 14, attributes := #[] }, { accessFlags := 18, nameIndex := 17, descriptorIndex := 18, attributes := #[] }, { accessFlags := 2, nameIndex := 21, descriptorIndex := 22, attributes := #[] }, { accessFlags := 2, nameIndex := 25, descriptorIndex := 26, attributes := #[] }, { accessFlags := 26, nameIndex := 1116, descriptorIndex := 1117, attributes := #[] }, { accessFlags := 24, nameIndex := 40, descriptorIndex := 26, attributes := #[] }, { accessFlags := 26, nameIndex := 1101, descriptorIndex := 1102, attributes := #[] }, { accessFlags := 26, nameIndex := 1121, descriptorIndex := 1122, attributes := #[] }, { accessFlags := 25, nameIndex := 599, descriptorIndex := 600, attributes := #[] }, { accessFlags := 24, nameIndex := 1125, descriptorIndex := 18, attributes := #[] }, { accessFlags := 24, nameIndex := 1127, descriptorIndex := 18, attributes := #[] }])
  fields := #[{ name := "value", type := (.array .byte), accessFlags := 18, slot := 0, constantValue := 0 }, { name := "coder", type := .byte, accessFlags := 18, slot := 1, constantValue := 0 }, { name := "hash", type := .int, accessFlags := 2, slot := 2, constantValue := 0 }, { name := "hashIsZero", type := .boolean, accessFlags := 2, slot := 3, constantValue := 0 }, { name := "serialVersionUID", type := .long, accessFlags := 26, slot := 0, constantValue := 0 }, { name := "COMPACT_STRINGS", type := .boolean, accessFlags := 24, slot := 1, constantValue := 0 }, { name := "serialPersistentFields", type := (.array (.object "java/io/ObjectStreamField")), accessFlags := 26, slot := 2, constantValue := 0 }, { name := "REPL", type := .char, accessFlags := 26, slot := 3, constantValue := 0 }, { name := "CASE_INSENSITIVE_ORDER", type := (.object "java/util/Comparator"), accessFlags := 25, slot := 4, constantValue := 0 }, { name := "LATIN1", type := .byte, accessFlags := 24, slot := 5, constantValue := 0 }, { name := "UTF16", type := .byte, accessFlags := 24, slot := 6, constantValue := 0 }]
  methods := #[k9m0]
  instanceTypes := #[(.array .byte), .byte, .int, .boolean]
  staticTypes := #[.long, .boolean, (.array (.object "java/io/ObjectStreamField")), .char, (.object "java/util/Comparator"), .byte, .byte]
  resolved := Array.replicate 1451 none
  statics := none }

def pool10 : Array CpInfo := pool [(2, .class_ 4), (1, u "java/lang/Object"), (0, u "<init>"), (0, u "()V"), (35, .class_ 44), (1, u "java/util/Objects"), (0, u "requireNonNull"), (48, u "(Ljava/lang/Object;Ljava/lang/String;)Ljava/lang/Object;")] 89

def k10m0 : Method := { name := "<init>", desc := "()V", sig := { parameters := [], returnType := none }, accessFlags := 2, code := none }
def k10c1 : Code := { maxStack := 3, maxLocals := 2, code := jdk_31_method_11_code, exceptionTable := #[], attributes := #[] }
def k10m1 : Method := { name := "requireNonNull", desc := "(Ljava/lang/Object;Ljava/lang/String;)Ljava/lang/Object;", sig := { parameters := [(.object "java/lang/Object"), (.object "java/lang/String")], returnType := some (.object "java/lang/Object") }, accessFlags := 9, code := some k10c1 }
/-- java/util/Objects -/
def k10 : Class := { plain "java/util/Objects" (some 0) with
  accessFlags := 49
  interfaces := #[]
  cf := some (fileOf pool10 42 #[] #[{ accessFlags := 2, nameIndex := 5, descriptorIndex := 6, attributes := #[] }, { accessFlags := 9, nameIndex := 45, descriptorIndex := 94, attributes := #[] }] 49 2 #[] #[])
  fields := #[]
  methods := #[k10m0, k10m1]
  instanceTypes := #[]
  staticTypes := #[]
  resolved := Array.replicate 184 none
  statics := none }

def pool11 : Array CpInfo := pool [(1, u "java/lang/Cloneable"), (0, .class_ 1), (0, u "java/lang/Object"), (0, .class_ 3)] 3

/-- java/lang/Cloneable -/
def k11 : Class := { plain "java/lang/Cloneable" (some 0) with
  accessFlags := 1537
  interfaces := #[]
  cf := some (fileOf pool11 2 #[] #[] 1537 4 #[] #[])
  fields := #[]
  methods := #[]
  instanceTypes := #[]
  staticTypes := #[]
  resolved := Array.replicate 8 none
  statics := none }

/-- the primitive byte -/
def k12 : Class := { plain "byte" none with kind := .primitive 'B', accessFlags := 0x411 }
/-- [B -/
def k13 : Class := { plain "[B" (some 0) with kind := .array 12 .byte, interfaces := #[11, 4], accessFlags := 1041 }

/-- the primitive int -/
def k14 : Class := { plain "int" none with kind := .primitive 'I', accessFlags := 0x411 }
/-- [I -/
def k15 : Class := { plain "[I" (some 0) with kind := .array 14 .int, interfaces := #[11, 4], accessFlags := 1041 }

def heap : Heap := #[{ cls := 6, slots := #[.ref 1, .ref 2, .ref 3, .null], vm := .statics 6 },
  { cls := 6, slots := #[.null, .int 0, .int 0], vm := .none },
  { cls := 6, slots := #[.null, .int 1, .int 0], vm := .none },
  { cls := 6, slots := #[.null, .int 2, .int 0], vm := .none }]
def classes : Array Class := #[k0, k1, k2, k3, k4, k5, k6, k7, k8, k9, k10, k11, k12, k13, k14, k15]
def interned : List (Array UInt16 × Addr) := []
def slotsUsed : Nat := 13
def theMethod : MethodId := ⟨1, 1⟩
def args0 : Array Value := #[.int 5, .int 2]
def aboutOver (below : List Frame) : State where
  vm := { classes := classes, interned := interned.toArray }
  heap := heap
  slotsUsed := slotsUsed
  threads := #[{ frames := .invoking theMethod args0 :: below }]
def below0 : List Frame := [.native { method := ⟨0, 0⟩, args := #[] }]
def about1 : State := aboutOver below0
def p0 : Program := .bare "" "" ""
def e0 : Env := launch0.env 0 0 0
theorem w_frames : about1.frames = Frame.invoking theMethod args0 :: below0 := rfl
set_option maxRecDepth 65536 in
theorem w_args : argsFit about1.vm theMethod args0 = true := by decide +kernel
set_option maxRecDepth 65536 in
theorem w_heap : heapFits about1 = true := by decide +kernel
set_option maxRecDepth 65536 in
theorem w_runnable : about1.curStatus? = some .runnable := by decide +kernel
set_option maxRecDepth 65536 in
theorem w_alone : about1.alone = true := by decide +kernel
set_option maxRecDepth 65536 in
theorem w_named : about1.methodNamed? x = some theMethod := by decide +kernel
set_option maxRecDepth 65536 in
theorem w_hears : about1.hears theMethod below0 = true := by decide +kernel
set_option maxRecDepth 65536 in
theorem w_ripe : about1.ripe theMethod args0 below0 = true := by decide +kernel
theorem w_running : about1.status = .running := rfl
set_option maxRecDepth 65536 in
theorem w_room : about1.hasRoom e0.platform room_1 = true :=
  launch0.hasRoom_least _ room_1 (by decide +kernel) (by decide +kernel) (by decide +kernel) (by decide +kernel) (by decide +kernel) (by decide +kernel)
theorem allAtoms_all (ts : List Jvm.Cond) (a : Array Jvm.Value) (st : Jvm.State) : (allAtoms ts).before a st = ts.all (fun c => c.before a st) := by
  induction ts with
  | nil => rfl
  | cons c t ih =>
    show (Jvm.Cond.and c (allAtoms t)).before a st = _
    rw [Jvm.Cond.before_and, ih, List.all_cons]
def words1 : List Jvm.Cond := Jvm.Cond.code x code maxLocals ret :: tables_1
/-- a 'code' word, met by the world's own term for the bytes: nothing is compared byte by byte -/
theorem code_word {y : MethodName} {bytes : ByteArray} {mx : Nat} {rt : Option FieldType} {a : Array Value} {s : State} {m : MethodId} {meth : Method} {c : Code} (h1 : s.methodNamed? y = some m) (h2 : s.vm.method? m = some meth) (h3 : meth.code = some c) (h4 : c.code = bytes)
    (h5 : (c.maxLocals == mx && c.exceptionTable.isEmpty && decide (c.maxStack ≤ mostOperands) && decide (meth.sig.returnType = rt) && !meth.locks && decide (parseMethodDescriptor y.desc = some meth.sig)) = true) : (Jvm.Cond.code y bytes mx rt).before a s = true := by
  simp only [Bool.and_eq_true, beq_iff_eq, Bool.not_eq_true', decide_eq_true_eq] at h5
  obtain ⟨⟨⟨⟨⟨g1, g2⟩, g3⟩, g4⟩, g5⟩, g6⟩ := h5
  simp [Cond.before, Cond.holds, Cond.value, h1, h2, h3, h4, g1, g2, g3, g4, g5, g6]
def isCode : Jvm.Cond → Bool
  | .code _ _ _ _ => true
  | _ => false
theorem all_split {L : List Jvm.Cond} {P : Jvm.Cond → Bool} (h1 : L.all (fun c => isCode c || P c) = true) (h2 : ∀ c ∈ L.filter isCode, P c = true) : L.all P = true := by
  refine List.all_eq_true.mpr fun c hc => ?_
  have h := List.all_eq_true.mp h1 c hc
  rcases Bool.eq_false_or_eq_true (isCode c) with hi | hi
  · exact h2 c (List.mem_filter.mpr ⟨hc, hi⟩)
  · simpa [hi] using h
set_option maxRecDepth 65536 in
theorem w_c0 : (Jvm.Cond.code x code maxLocals ret).before args0 about1 = true := code_word (m := ⟨1, 1⟩) (meth := k1m1) (c := k1c1) (by decide +kernel) rfl rfl rfl (by decide +kernel)
set_option maxRecDepth 65536 in
theorem w_c1 : (Jvm.Cond.code ({ cls := "com/example/impart/impart/Truth", name := "of", desc := "(Z)Lcom/example/impart/impart/Truth;" } : Jvm.MethodName) prog_54_method_4_code (1 : Nat) (Option.some (Jvm.ClassFile.FieldType.object "com/example/impart/impart/Truth"))).before args0 about1 = true := code_word (m := ⟨6, 0⟩) (meth := k6m0) (c := k6c0) (by decide +kernel) rfl rfl rfl (by decide +kernel)
set_option maxRecDepth 65536 in
theorem w_c2 : (Jvm.Cond.code ({ cls := "com/example/impart/impart/Truth", name := "not", desc := "()Lcom/example/impart/impart/Truth;" } : Jvm.MethodName) prog_54_method_5_code (1 : Nat) (Option.some (Jvm.ClassFile.FieldType.object "com/example/impart/impart/Truth"))).before args0 about1 = true := code_word (m := ⟨6, 1⟩) (meth := k6m1) (c := k6c1) (by decide +kernel) rfl rfl rfl (by decide +kernel)
set_option maxRecDepth 65536 in
theorem w_c3 : (Jvm.Cond.code ({ cls := "java/lang/Enum", name := "ordinal", desc := "()I" } : Jvm.MethodName) jdk_37_method_2_code (1 : Nat) (Option.some Jvm.ClassFile.FieldType.int)).before args0 about1 = true := code_word (m := ⟨5, 0⟩) (meth := k5m0) (c := k5c0) (by decide +kernel) rfl rfl rfl (by decide +kernel)
set_option maxRecDepth 65536 in
theorem w_c4 : (Jvm.Cond.code ({ cls := "com/example/impart/impart/Truth", name := "and", desc := "(Lcom/example/impart/impart/Truth;)Lcom/example/impart/impart/Truth;" } : Jvm.MethodName) prog_54_method_6_code (2 : Nat) (Option.some (Jvm.ClassFile.FieldType.object "com/example/impart/impart/Truth"))).before args0 about1 = true := code_word (m := ⟨6, 2⟩) (meth := k6m2) (c := k6c2) (by decide +kernel) rfl rfl rfl (by decide +kernel)
set_option maxRecDepth 65536 in
theorem w_c5 : (Jvm.Cond.code ({ cls := "java/util/Objects", name := "requireNonNull", desc := "(Ljava/lang/Object;Ljava/lang/String;)Ljava/lang/Object;" } : Jvm.MethodName) jdk_31_method_11_code (2 : Nat) (Option.some (Jvm.ClassFile.FieldType.object "java/lang/Object"))).before args0 about1 = true := code_word (m := ⟨10, 1⟩) (meth := k10m1) (c := k10c1) (by decide +kernel) rfl rfl rfl (by decide +kernel)
set_option maxRecDepth 65536 in
theorem w_c6 : (Jvm.Cond.code ({ cls := "com/example/impart/impart/Truth", name := "or", desc := "(Lcom/example/impart/impart/Truth;)Lcom/example/impart/impart/Truth;" } : Jvm.MethodName) prog_54_method_7_code (2 : Nat) (Option.some (Jvm.ClassFile.FieldType.object "com/example/impart/impart/Truth"))).before args0 about1 = true := code_word (m := ⟨6, 3⟩) (meth := k6m3) (c := k6c3) (by decide +kernel) rfl rfl rfl (by decide +kernel)
def codes1 : List Jvm.Cond := [Jvm.Cond.code x code maxLocals ret, Jvm.Cond.code ({ cls := "com/example/impart/impart/Truth", name := "of", desc := "(Z)Lcom/example/impart/impart/Truth;" } : Jvm.MethodName) prog_54_method_4_code (1 : Nat) (Option.some (Jvm.ClassFile.FieldType.object "com/example/impart/impart/Truth")), Jvm.Cond.code ({ cls := "com/example/impart/impart/Truth", name := "not", desc := "()Lcom/example/impart/impart/Truth;" } : Jvm.MethodName) prog_54_method_5_code (1 : Nat) (Option.some (Jvm.ClassFile.FieldType.object "com/example/impart/impart/Truth")), Jvm.Cond.code ({ cls := "java/lang/Enum", name := "ordinal", desc := "()I" } : Jvm.MethodName) jdk_37_method_2_code (1 : Nat) (Option.some Jvm.ClassFile.FieldType.int), Jvm.Cond.code ({ cls := "com/example/impart/impart/Truth", name := "and", desc := "(Lcom/example/impart/impart/Truth;)Lcom/example/impart/impart/Truth;" } : Jvm.MethodName) prog_54_method_6_code (2 : Nat) (Option.some (Jvm.ClassFile.FieldType.object "com/example/impart/impart/Truth")), Jvm.Cond.code ({ cls := "java/util/Objects", name := "requireNonNull", desc := "(Ljava/lang/Object;Ljava/lang/String;)Ljava/lang/Object;" } : Jvm.MethodName) jdk_31_method_11_code (2 : Nat) (Option.some (Jvm.ClassFile.FieldType.object "java/lang/Object")), Jvm.Cond.code ({ cls := "com/example/impart/impart/Truth", name := "or", desc := "(Lcom/example/impart/impart/Truth;)Lcom/example/impart/impart/Truth;" } : Jvm.MethodName) prog_54_method_7_code (2 : Nat) (Option.some (Jvm.ClassFile.FieldType.object "com/example/impart/impart/Truth"))]
set_option maxRecDepth 65536 in
theorem codes_eq : words1.filter isCode = codes1 := rfl
theorem w_codes : ∀ c ∈ words1.filter isCode, c.before args0 about1 = true := by
  rw [codes_eq]
  intro c hc
  simp only [codes1, List.mem_cons, List.not_mem_nil, or_false] at hc
  rcases hc with rfl | rfl | rfl | rfl | rfl | rfl | rfl
  · exact w_c0
  · exact w_c1
  · exact w_c2
  · exact w_c3
  · exact w_c4
  · exact w_c5
  · exact w_c6
set_option maxRecDepth 65536 in
theorem w_t1 : (words1.take 24).all (fun c => isCode c || c.before args0 about1) = true := by decide +kernel
set_option maxRecDepth 65536 in
theorem w_t2 : ((words1.drop 24).take 24).all (fun c => isCode c || c.before args0 about1) = true := by decide +kernel
set_option maxRecDepth 65536 in
theorem w_t3 : ((words1.drop 24).drop 24).all (fun c => isCode c || c.before args0 about1) = true := by decide +kernel
theorem w_tables : (allAtoms (Jvm.Cond.code x code maxLocals ret :: tables_1)).before args0 about1 = true := by
  rw [allAtoms_all]
  show words1.all (fun c => c.before args0 about1) = true
  refine all_split ?_ w_codes
  rw [← List.take_append_drop 24 words1, List.all_append, w_t1, ← List.take_append_drop 24 (words1.drop 24), List.all_append, w_t2, w_t3]
  rfl
set_option maxRecDepth 65536 in
theorem w_case : (Jvm.Cond.and given_1 narrow_1).before args0 about1 = true := by decide +kernel
theorem w_applies : (headSpec (Jvm.Cond.code x code maxLocals ret :: tables_1) room_1).applies x e0.platform about1 = true :=
  (Spec.applies_iff w_frames).mpr ⟨w_running, w_runnable, w_alone, w_named, w_hears, w_ripe, w_room, w_tables⟩
theorem atStart : AtStart classFile x code maxLocals ret World_1 tables_1 room_1 Calls_1 rest_1 Pre_1 launch0 p0 e0 about1 theMethod args0 below0 :=
  ⟨lists_1, trivial, launch0.admits_env _ _ _, launch0.least_env, fairChoices_fair.cas, fairChoices_fair.clock, w_frames, w_args, w_heap, w_applies, trivial, trivial, w_case⟩
end start1
theorem witness_1 : WitnessClaimed_1 := ⟨start1.p0, start1.e0, start1.about1, start1.theMethod, start1.args0, start1.below0, start1.atStart⟩
end Jvm.Pilot.@@N@@
