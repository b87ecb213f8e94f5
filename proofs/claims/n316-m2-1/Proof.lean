import JvmDerived
import JvmDerived.Pilot.@@N@@Statement
import JvmDerived.Pilot.@@N@@Code
set_option linter.unusedVariables false
set_option linter.unusedSimpArgs false
namespace Jvm.Pilot.@@N@@
open Jvm Jvm.ClassFile Sem Op Lib Jvm.Free Jvm.Stand Jvm.LawKit Jvm.RoadKit Bundle Jvm.Pilot.@@N@@.Jvm.D
abbrev own_H (a0 : Array Value) (Z : State) : Prop := ∀ d ∈ tables_1, d.before a0 Z = true
def own_Fin (p : Program) (e : Env) (below : List Frame) (P : State → Outcome → Prop) (a : State) : Prop := ∃ t o, Steps p.tables e below a t ∧ t.status = .running ∧ Ended t below o ∧ P t o
theorem own_fin {p : Program} {e : Env} {below : List Frame} {P : State → Outcome → Prop} {a b : State} (k : ∀ t, Steps p.tables e below b t → Steps p.tables e below a t) (h : own_Fin p e below P b) : own_Fin p e below P a := by
  obtain ⟨t, o, s, r⟩ := h
  exact ⟨t, o, k t s, r⟩
theorem own_rw {T : State} {h : Heap} {a : Addr} {c : Cell} (e : T.heap = h) (q : h[a]? = some c) : T.heap[a]? = some c := by rw [e]; exact q
theorem own_StaKeep {Z : State} {h : Heap} {C n d : String} {v : Value} {n0 : Nat} (O : Old Z n0 h) (F : Sta Z Z.heap C n d v) : Sta Z h C n d v := F.ext O.2

theorem jk {Z : State} {a0 : Array Value} {d : Jvm.Cond} (hw : own_H a0 Z) (i : Nat) (h : tables_1[i]? = some d) : d.before a0 Z = true := hw d (List.mem_of_getElem? h)
theorem jm {Z s : State} {a0 args : Array Value} {d : Jvm.Cond} (hZ : Z.Warmed39 s.vm) (hw : own_H a0 Z) (i : Nat) (h : tables_1[i]? = some d) (hd : (d.onTables && d.keepsFace) = true := by first | rfl | simp [Cond.onTables, Cond.keepsFace, Cond.keeps, Cond.steady]) : d.before args s = true := mvT hZ (jk hw i h) hd
theorem jg {p : Program} {e : Env} {below : List Frame} {P : State → Outcome → Prop} {a : State} (T : State) (m : MethodId) (pc : Nat) (L : Array Slot) (S : List Value) (k : ∀ t, Steps p.tables e below (T.setTop (mkF m pc L S)) t → Steps p.tables e below a t) (h : own_Fin p e below P (T.setTop (mkF m pc L S))) : own_Fin p e below P a := own_fin k h
abbrev own_P (s : State) (R : Room) (Qq : Option Value → Heap → List Loc → Prop) : State → Outcome → Prop := fun tT oO => ∃ vV lA, oO = .returned vV ∧ Qq vV tT.heap lA ∧ FrameEnd s oO tT lA R.cells R.slots
section OwnR
variable {p : Program} {l : Launch} {e : Env} {R : Room} {s : State} {m : MethodId} {args : Array Value} {below : List Frame} {meth : Method} {c : Code} {T : State} {locs : List Loc} {cells slots : Nat} {h : Heap} {Qq : Option Value → Heap → List Loc → Prop} {pc : Nat} {L : Array Slot}
theorem own_rV (X : Stand p l e R s m args below meth c T locs cells slots) (hx : p.tables.exec = Jvm.exec) (hlk : meth.locks = false) (hret : meth.sig.returnType = none) (hd : decode c.code pc = .ok (.return_, 1)) (eT : T.heap = h) (hc : cells ≤ R.cells) (hs : slots ≤ R.slots) (q : Qq (none) h locs) : own_Fin p e below (own_P s R Qq) (T.setTop (mkF m pc L [])) := by
  obtain ⟨fs, hr, hrun, hended, hW, hsame⟩ := X.leave (v := none) (fun _ => rfl) hlk
  refine ⟨_, _, X.returnOut hx hret hd hr, hrun, hended, _, _, rfl, ?_, ⟨_, rfl⟩, hW, hsame.mono hc hs⟩
  show Qq _ T.heap locs
  rw [eT]; exact q
theorem own_rN (X : Stand p l e R s m args below meth c T locs cells slots) (hx : p.tables.exec = Jvm.exec) (hlk : meth.locks = false) {z : Int32} {t : FieldType} {rest : List Value} (hret : meth.sig.returnType = some t) (ht : t = .boolean ∨ t = .byte ∨ t = .char ∨ t = .short) (hd : decode c.code pc = .ok (.ireturn, 1)) (eT : T.heap = h) (hc : cells ≤ R.cells) (hs : slots ≤ R.slots) (q : Qq (some (.int (nar t z))) h locs) : own_Fin p e below (own_P s R Qq) (T.setTop (mkF m pc L (.int z :: rest))) := by
  obtain ⟨fs, hr, hrun, hended, hW, hsame⟩ := X.leave (v := some (.int (nar t z))) (fun q => by rw [hret] at q; cases q) hlk
  refine ⟨_, _, retN X hx hret ht hd hr, hrun, hended, _, _, rfl, ?_, ⟨_, rfl⟩, hW, hsame.mono hc hs⟩
  show Qq _ T.heap locs
  rw [eT]; exact q
theorem own_rr (X : Stand p l e R s m args below meth c T locs cells slots) (hx : p.tables.exec = Jvm.exec) (hlk : meth.locks = false) {w : Value} {t : FieldType} {i : Instr} {rest : List Value} (hret : meth.sig.returnType = some t) (hn : narrow t w = w) (hi : (i = .ireturn ∧ (t = .int ∨ t = .boolean ∨ t = .byte ∨ t = .char ∨ t = .short) ∧ ∃ z, w = .int z) ∨ (i = .lreturn ∧ t = .long ∧ ∃ z, w = .long z) ∨ (i = .dreturn ∧ t = .double ∧ ∃ z, w = .double z) ∨ (i = .freturn ∧ t = .float ∧ ∃ z, w = .float z) ∨ (i = .areturn ∧ t.isReference = true ∧ w.isRef = true)) (hd : decode c.code pc = .ok (i, 1)) (eT : T.heap = h) (hc : cells ≤ R.cells) (hs : slots ≤ R.slots) (q : Qq (some w) h locs) : own_Fin p e below (own_P s R Qq) (T.setTop (mkF m pc L (w :: rest))) := by
  obtain ⟨fs, hr, hrun, hended, hW, hsame⟩ := X.leave (v := some w) (fun q => by rw [hret] at q; cases q) hlk
  refine ⟨_, _, retOut X hx hret hn hi hd hr, hrun, hended, _, _, rfl, ?_, ⟨_, rfl⟩, hW, hsame.mono hc hs⟩
  show Qq _ T.heap locs
  rw [eT]; exact q
theorem own_rL (X : Stand p l e R s m args below meth c T locs cells slots) (hx : p.tables.exec = Jvm.exec) (hlk : meth.locks = false) {z : Int32} {t : FieldType} {rest : List Value} (hret : meth.sig.returnType = some t) (ht : t = .boolean ∨ t = .byte ∨ t = .char ∨ t = .short) (hd : decode c.code pc = .ok (.ireturn, 1)) {w : Value} (hv : Value.int (nar t z) = w) (eT : T.heap = h) (hc : cells ≤ R.cells) (hs : slots ≤ R.slots) (q : Qq (some w) h locs) : own_Fin p e below (own_P s R Qq) (T.setTop (mkF m pc L (.int z :: rest))) := by
  subst hv
  exact own_rN X hx hlk hret ht hd eT hc hs q
end OwnR
abbrev own_Met (lL : Launch) (y : MethodName) (cs : List Jvm.Cond) (R : Room) (A : Array Value) (Z : State) (h0 : Heap) (Qq : Option Value → Heap → List Loc → Prop) : Prop := MetFree lL y (head1 cs R) (fun aA uU => aA = A ∧ Z.Warmed39 uU.vm ∧ uU.heap = h0) (fun _ _ _ _ _ => True) (fun _ uU oO uU' => ∃ vV lA, oO = .returned vV ∧ Qq vV uU'.heap lA ∧ FrameEnd uU oO uU' lA R.cells R.slots)
theorem own_begin {lL : Launch} {Z : State} {y : MethodName} {bytes : ByteArray} {maxL : Nat} {ret : Option FieldType} {ws : List Jvm.Cond} {R : Room} {A : Array Value} {h0 : Heap} {Qq : Option Value → Heap → List Loc → Prop} {L : Array Slot} (pl : plainFor y = true) (ef : ∀ mM : MethodId, entryFrame mM A maxL = mkF mM 0 L [])
    (k : ∀ pP eE sS mM below meth cC s₁, pP.tables.exec = Jvm.exec → cC.code = bytes → cC.maxLocals = maxL → Z.Warmed39 sS.vm → sS.vm.findClass y.cls = some mM.cls → meth.name = y.name → meth.sig.returnType = ret → meth.locks = false → Stand pP lL eE R sS mM A below meth cC s₁ [] 0 0 → s₁.heap = h0 → own_Fin pP eE below (own_P sS R Qq) (s₁.setTop (mkF mM 0 L []))) : own_Met lL y (Jvm.Cond.code y bytes maxL ret :: ws) R A Z h0 Qq := by
  refine MetFree.of_bodySF pl hisR ?_
  intro pP eE sS mM args below meth cC s₁ Bd hml0 hP hK
  obtain ⟨rfl, hZ, hh⟩ := hP
  have e0 : s₁.heap = h0 := by rw [← hh, Bd.state]; rfl
  exact own_fin (fun tT kK => castTop (ef mM) kK) (k pP eE sS mM below meth cC s₁ Bd.exec Bd.bytes hml0 hZ (findClass_of_methodNamed Bd.named) (name_of_methodNamed Bd.named Bd.method).1 Bd.returns Bd.notSynchronized (Stand.of_body Bd) e0)
section OwnW
variable {p : Program} {l : Launch} {e : Env} {R : Room} {Z s : State} {a0 : Array Value} {m : MethodId} {args : Array Value} {below : List Frame} {meth : Method} {c : Code} {T : State} {locs : List Loc} {cells slots : Nat} {h : Heap} {P : State → Outcome → Prop}
theorem jf (X : Stand p l e R s m args below meth c T locs cells slots) (hx : p.tables.exec = Jvm.exec) (hZ : Z.Warmed39 s.vm) {own O n d : String} {index : Nat} (hown : s.vm.findClass own = some m.cls) (w : (Cond.fieldLink own index O n d).before a0 Z = true) (eT : T.heap = h) {a : Addr} {v : Value} (F : Fld Z h a O n d v) {pc : Nat} {L : Array Slot} {rest : List Value} (hd : decode c.code pc = .ok (.getfield index, 3)) (k : ∀ T', Stand p l e R s m args below meth c T' locs cells slots → T'.heap = h → own_Fin p e below P (T'.setTop (mkF m (pc + 3) L (v :: rest)))) : own_Fin p e below P (T.setTop (mkF m pc L (.ref a :: rest))) := by
  obtain ⟨T', X', e', st⟩ := getF (host := "") X hx hZ hown (Or.inl w) Via.refl eT F (g := mkF m pc L (.ref a :: rest)) rfl rfl hd
  exact own_fin st (k T' X' e')
theorem jn (X : Stand p l e R s m args below meth c T locs cells slots) (hx : p.tables.exec = Jvm.exec) (hZ : Z.Warmed39 s.vm) {own O n d host : String} {index : Nat} (hown : s.vm.findClass own = some m.cls) (w : (Cond.fieldLinkNest own index O n d host).before a0 Z = true) (eT : T.heap = h) {a : Addr} {v : Value} (F : Fld Z h a O n d v) {pc : Nat} {L : Array Slot} {rest : List Value} (hd : decode c.code pc = .ok (.getfield index, 3)) (k : ∀ T', Stand p l e R s m args below meth c T' locs cells slots → T'.heap = h → own_Fin p e below P (T'.setTop (mkF m (pc + 3) L (v :: rest)))) : own_Fin p e below P (T.setTop (mkF m pc L (.ref a :: rest))) := by
  obtain ⟨T', X', e', st⟩ := getF X hx hZ hown (Or.inr w) Via.refl eT F (g := mkF m pc L (.ref a :: rest)) rfl rfl hd
  exact own_fin st (k T' X' e')
theorem jq (X : Stand p l e R s m args below meth c T locs cells slots) (hx : p.tables.exec = Jvm.exec) (hZ : Z.Warmed39 s.vm) {own O n d C : String} {index kk : Nat} {ty : FieldType} (hown : s.vm.findClass own = some m.cls) (w : (Cond.fieldLink own index O n d).before a0 Z = true) (eT : T.heap = h) {a : Addr} {v old : Value} (F : Fld Z h a O n d old) (E : Exa Z h a C) (L0 : (Cond.lays C O n d).before a0 Z = true) (wi : (Cond.instantiable C kk).before a0 Z = true) (ht : parseFieldDescriptor d = some ty) (hn : narrow ty v = v) (hf : fits ty v = true) {pc : Nat} {L : Array Slot} {rest : List Value} (hd : decode c.code pc = .ok (.putfield index, 3)) {n0 : Nat} {h0 : Heap} {ws : List Addr} (K : Keep h0 h ws) (N : Fr n0 locs) (hm : a ∈ ws ∨ h0.size ≤ a) (ge : n0 ≤ a)
    (k : ∀ T' h', Stand p l e R s m args below meth c T' (locs ++ [⟨a, RoadKit.slotOf Z O n d⟩]) cells slots → T'.heap = h' → Wr h h' a (RoadKit.slotOf Z O n d) v → Fld Z h' a O n d v → Keep h0 h' ws → Fr n0 (locs ++ [⟨a, RoadKit.slotOf Z O n d⟩]) → own_Fin p e below P (T'.setTop (mkF m (pc + 3) L rest))) : own_Fin p e below P (T.setTop (mkF m pc L (v :: .ref a :: rest))) := by
  obtain ⟨T', h', X', e', W, st⟩ := putF (host := "") X hx hZ hown (Or.inl w) Via.refl eT F E (Or.inl L0) wi ht hn hf (g := mkF m pc L (v :: .ref a :: rest)) rfl rfl hd
  exact own_fin st (k T' h' X' e' W (F.same W) (K.wr W hm) (Fr.snoc X' N ge))
theorem jv (X : Stand p l e R s m args below meth c T locs cells slots) (hx : p.tables.exec = Jvm.exec) (hZ : Z.Warmed39 s.vm) {own C : String} {index : Nat} {y : MethodName} {bytes : ByteArray} {maxL : Nat} {ret : Option FieldType} {rm : Room} {A : Array Value} {Qq : Option Value → Heap → List Loc → Prop} (hown : s.vm.findClass own = some m.cls) (w1 : (Cond.methodLink own index y).before a0 Z = true) (w2 : (Cond.declares y).before a0 Z = true) (w3 : (Cond.selects C y y).before a0 Z = true) (w4 : (Cond.instanceMethod y).before a0 Z = true) (wc : (Cond.code y bytes maxL ret).before a0 Z = true) (wz : (Cond.initialized y.cls).before a0 Z = true) (con : own_Met l y [Cond.code y bytes maxL ret] rm A Z h Qq) {a : Addr} (E : Exa Z h a C) (eT : T.heap = h) {ps : List FieldType} {r : Option FieldType} (hd : parseMethodDescriptor y.desc = some ⟨ps, r⟩) {pc : Nat} {L : Array Slot} (argsL rest : List Value) (hdg : decode c.code pc = .ok (.invokevirtual index, 3)) (hA : (.ref a :: argsL).toArray = A) (hl : argsL.length = ps.length) (hsz : L.size = c.maxLocals) (hy : y.cls ≠ "java/lang/invoke/MethodHandle" ∧ y.cls ≠ "java/lang/invoke/VarHandle") (W : Nat) (hW : (rest.map fun v => v.category).sum ≤ W) (hf : rm.frames + 1 ≤ R.frames) (hlo : W + (maxL + 11) + rm.locals ≤ R.locals) (hc : cells + rm.cells ≤ R.cells) (hs : slots + rm.slots ≤ R.slots) (k : ∀ (v : Option Value) (T' : State) (L' : List Loc), Stand p l e R s m args below meth c T' (locs ++ L') (cells + rm.cells) (slots + rm.slots) → Qq v T'.heap L' → own_Fin p e below P (T'.setTop (mkF m (pc + 3) L (v.toList ++ rest)))) : own_Fin p e below P (T.setTop (mkF m pc L (argsL.reverse ++ .ref a :: rest))) := by
  obtain ⟨cB, kB, qa, qb, qc⟩ := isOf hZ eT E
  obtain ⟨v, vm₁, ⟨T', L', k', n'⟩, -, X', ⟨Lc, hQ, e1, e2, e3⟩, st⟩ := X.virtualBack hx (y := y) (z := y) hown (mvT hZ w1) (mvT hZ w2) (notFace_of_selects (args := #[]) (mvT hZ w3)) (mvT hZ w3) (mvT hZ w4) hy (backOf (W := W) con hZ wc wz hf hlo) qa qc (g := mkF m pc L (argsL.reverse ++ .ref a :: rest)) rfl hsz (Steps.refl _) (argsL := argsL) (rest := rest) (lenOf hd hl) rfl (by show 2 * 0 + _ ≤ _; omega) hdg (fun _ _ => ⟨hA, eT, hc, hs⟩)
  dsimp only [Pt.U, Pt.locs, Pt.cells, Pt.slots] at X' e1 e2 e3 st hQ
  subst e1 e2 e3
  exact own_fin (fun t q => st.trans q) (k v T' Lc X' hQ)
theorem jw (X : Stand p l e R s m args below meth c T locs cells slots) (hx : p.tables.exec = Jvm.exec) (hZ : Z.Warmed39 s.vm) {own C : String} {index : Nat} {y : MethodName} {bytes : ByteArray} {maxL : Nat} {ret : Option FieldType} {rm : Room} {A : Array Value} {Qq : Option Value → Heap → List Loc → Prop} (hown : s.vm.findClass own = some m.cls) (w1 : (Cond.methodLink own index y).before a0 Z = true) (w4 : (Cond.instanceMethod y).before a0 Z = true) (hsel : (Cond.selects y.cls y y).before args s = true) (wp : (Cond.privateMethod y).before a0 Z = true) (wc : (Cond.code y bytes maxL ret).before a0 Z = true) (wz : (Cond.initialized y.cls).before a0 Z = true) (con : own_Met l y [Cond.code y bytes maxL ret] rm A Z h Qq) {a : Addr} (E : Exa Z h a C) (eT : T.heap = h) {ps : List FieldType} {r : Option FieldType} (hd : parseMethodDescriptor y.desc = some ⟨ps, r⟩) {pc : Nat} {L : Array Slot} (argsL rest : List Value) (hdg : decode c.code pc = .ok (.invokevirtual index, 3)) (hA : (.ref a :: argsL).toArray = A) (hl : argsL.length = ps.length) (hsz : L.size = c.maxLocals) (hy : y.cls ≠ "java/lang/invoke/MethodHandle" ∧ y.cls ≠ "java/lang/invoke/VarHandle") (W : Nat) (hW : (rest.map fun v => v.category).sum ≤ W) (hf : rm.frames + 1 ≤ R.frames) (hlo : W + (maxL + 11) + rm.locals ≤ R.locals) (hc : cells + rm.cells ≤ R.cells) (hs : slots + rm.slots ≤ R.slots) (k : ∀ (v : Option Value) (T' : State) (L' : List Loc), Stand p l e R s m args below meth c T' (locs ++ L') (cells + rm.cells) (slots + rm.slots) → Qq v T'.heap L' → own_Fin p e below P (T'.setTop (mkF m (pc + 3) L (v.toList ++ rest)))) : own_Fin p e below P (T.setTop (mkF m pc L (argsL.reverse ++ .ref a :: rest))) := by
  obtain ⟨cq, q, q'⟩ := E.cell
  obtain ⟨v, vm₁, ⟨T', L', k', n'⟩, -, X', ⟨Lc, hQ, e1, e2, e3⟩, st⟩ := X.privateBack hx (y := y) hown (mvT hZ w1) (mvT hZ w4) hsel (Cond.privateMethod_at (mvP hZ wp (args := #[]))) (mvT hZ wc) hy (backOf (W := W) con hZ wc wz hf hlo) (g := mkF m pc L (argsL.reverse ++ .ref a :: rest)) rfl hsz (Steps.refl _) (a := a) (by rw [eT]; exact q) q' (argsL := argsL) (rest := rest) (lenOf hd hl) rfl (by show 2 * 0 + _ ≤ _; omega) hdg (fun _ _ => ⟨hA, eT, hc, hs⟩)
  dsimp only [Pt.U, Pt.locs, Pt.cells, Pt.slots] at X' e1 e2 e3 st hQ
  subst e1 e2 e3
  exact own_fin (fun t q => st.trans q) (k v T' Lc X' hQ)
theorem own_sb (X : Stand p l e R s m args below meth c T locs cells slots) (hx : p.tables.exec = Jvm.exec) (hZ : Z.Warmed39 s.vm) {own : String} {index : Nat} {y : MethodName} {bytes : ByteArray} {maxL : Nat} {rm : Room} {A : Array Value} {Qq : Option Value → Heap → List Loc → Prop} (hy1 : y.name = "<init>") (hown : s.vm.findClass own = some m.cls) (w1 : (Cond.methodLink own index y).before a0 Z = true) (w4 : (Cond.instanceMethod y).before a0 Z = true) (wc : (Cond.code y bytes maxL none).before a0 Z = true) (wz : (Cond.initialized y.cls).before a0 Z = true) (con : own_Met l y [Cond.code y bytes maxL none] rm A Z h Qq) {a : Addr} (eT : T.heap = h) {ps : List FieldType} {r : Option FieldType} (hd : parseMethodDescriptor y.desc = some ⟨ps, r⟩) {pc : Nat} {L : Array Slot} (argsL rest : List Value) (hdg : decode c.code pc = .ok (.invokespecial index, 3)) (hA : (.ref a :: argsL).toArray = A) (hl : argsL.length = ps.length) (hsz : L.size = c.maxLocals) (hy : y.cls ≠ "java/lang/invoke/MethodHandle" ∧ y.cls ≠ "java/lang/invoke/VarHandle") (W : Nat) (hW : (rest.map fun v => v.category).sum ≤ W) (hf : rm.frames + 1 ≤ R.frames) (hlo : W + (maxL + 11) + rm.locals ≤ R.locals) (hc : cells + rm.cells ≤ R.cells) (hs : slots + rm.slots ≤ R.slots) (k : ∀ (v : Option Value) (T' : State) (L' : List Loc), Stand p l e R s m args below meth c T' (locs ++ L') (cells + rm.cells) (slots + rm.slots) → Qq v T'.heap L' → own_Fin p e below P (T'.setTop (mkF m (pc + 3) L (v.toList ++ rest)))) : own_Fin p e below P (T.setTop (mkF m pc L (argsL.reverse ++ .ref a :: rest))) := by
  obtain ⟨v, vm₁, ⟨T', L', k', n'⟩, -, X', ⟨Lc, hQ, e1, e2, e3⟩, st⟩ := X.specialBack hx (y := y) hy1 hown (mvT hZ w1) (mvT hZ w4) (mvT hZ wc) hy (backOf (W := W) con hZ wc wz hf hlo) (g := mkF m pc L (argsL.reverse ++ .ref a :: rest)) rfl hsz (Steps.refl _) (a := a) (argsL := argsL) (rest := rest) (lenOf hd hl) rfl (by show 2 * 0 + _ ≤ _; omega) hdg (fun _ _ => ⟨hA, eT, hc, hs⟩)
  dsimp only [Pt.U, Pt.locs, Pt.cells, Pt.slots] at X' e1 e2 e3 st hQ
  subst e1 e2 e3
  exact own_fin (fun t q => st.trans q) (k v T' Lc X' hQ)
theorem jc (X : Stand p l e R s m args below meth c T locs cells slots) (hx : p.tables.exec = Jvm.exec) (hZ : Z.Warmed39 s.vm) {own : String} {index : Nat} {y : MethodName} {bytes : ByteArray} {maxL : Nat} {ret : Option FieldType} {rm : Room} {A : Array Value} {Qq : Option Value → Heap → List Loc → Prop} (hown : s.vm.findClass own = some m.cls) (w1 : (Cond.methodLink own index y).before a0 Z = true) (w2 : (Cond.static y).before a0 Z = true) (wz : (Cond.initialized y.cls).before a0 Z = true) (wc : (Cond.code y bytes maxL ret).before a0 Z = true) (con : own_Met l y [Cond.code y bytes maxL ret] rm A Z h Qq) (eT : T.heap = h) {ps : List FieldType} {r : Option FieldType} (hd : parseMethodDescriptor y.desc = some ⟨ps, r⟩) {pc : Nat} {L : Array Slot} (argsL rest : List Value) (hdg : decode c.code pc = .ok (.invokestatic index, 3)) (hA : argsL.toArray = A) (hl : argsL.length = ps.length) (hsz : L.size = c.maxLocals) (hy : y.cls ≠ "java/lang/invoke/MethodHandle" ∧ y.cls ≠ "java/lang/invoke/VarHandle") (W : Nat) (hW : (rest.map fun v => v.category).sum ≤ W) (hf : rm.frames + 1 ≤ R.frames) (hlo : W + (maxL + 11) + rm.locals ≤ R.locals) (hc : cells + rm.cells ≤ R.cells) (hs : slots + rm.slots ≤ R.slots) (k : ∀ (v : Option Value) (T' : State) (L' : List Loc), Stand p l e R s m args below meth c T' (locs ++ L') (cells + rm.cells) (slots + rm.slots) → Qq v T'.heap L' → own_Fin p e below P (T'.setTop (mkF m (pc + 3) L (v.toList ++ rest)))) : own_Fin p e below P (T.setTop (mkF m pc L (argsL.reverse ++ rest))) := by
  obtain ⟨v, vm₁, ⟨T', L', k', n'⟩, -, X', ⟨Lc, hQ, e1, e2, e3⟩, st⟩ := Jvm.LawKit.callS X hx hown (mvT hZ w1) (mvT hZ w2) (mvT hZ wz) (mvT hZ wc) hy (backOf (W := W) con hZ wc wz hf hlo) (g := mkF m pc L (argsL.reverse ++ rest)) rfl hsz (lenOf hd hl) rfl (by show 2 * 0 + _ ≤ _; omega) hdg (fun _ _ => ⟨hA, eT, hc, hs⟩)
  dsimp only [Pt.U, Pt.locs, Pt.cells, Pt.slots] at X' e1 e2 e3 st hQ
  subst e1 e2 e3
  exact own_fin (fun t q => st t q) (k v T' Lc X' hQ)
end OwnW
abbrev vU : Slot := .unset
abbrev vS : Slot := .second
abbrev vI (x : Int32) : Slot := .val (.int x)
abbrev vJ (x : Int64) : Slot := .val (.long x)
abbrev vR (x : Addr) : Slot := .val (.ref x)
abbrev vN : Slot := .val .null
abbrev jy0 : MethodName := (⟨"java/lang/String", "coder", "()B"⟩ : MethodName)
abbrev jy1 : MethodName := (⟨"java/lang/String", "length", "()I"⟩ : MethodName)
abbrev jy2 : MethodName := (⟨"jdk/internal/util/Preconditions", "checkIndex", "(IILjava/util/function/BiFunction;)I"⟩ : MethodName)
abbrev jy3 : MethodName := (⟨"java/lang/String", "checkIndex", "(II)V"⟩ : MethodName)
abbrev jy4 : MethodName := (⟨"java/lang/String", "isLatin1", "()Z"⟩ : MethodName)
abbrev jy5 : MethodName := (⟨"java/lang/StringLatin1", "charAt", "([BI)C"⟩ : MethodName)
abbrev jy6 : MethodName := (⟨"java/lang/String", "charAt", "(I)C"⟩ : MethodName)
abbrev jy7 : MethodName := (⟨"java/lang/StringUTF16", "compress", "([CI[BII)I"⟩ : MethodName)
abbrev jy8 : MethodName := (⟨"java/lang/StringUTF16", "compress", "([CII)[B"⟩ : MethodName)
abbrev jy9 : MethodName := (⟨"java/lang/StringUTF16", "coderFromArrayLen", "([BI)B"⟩ : MethodName)
abbrev jy10 : MethodName := (⟨"java/lang/String", "<init>", "([CIILjava/lang/Void;)V"⟩ : MethodName)
abbrev jy11 : MethodName := (⟨"java/lang/String", "<init>", "([C)V"⟩ : MethodName)
abbrev jy12 : MethodName := (⟨"java/lang/StringLatin1", "canEncode", "(I)Z"⟩ : MethodName)
abbrev jy13 : MethodName := (⟨"java/lang/Math", "max", "(II)I"⟩ : MethodName)
abbrev jy14 : MethodName := (⟨"java/lang/Math", "min", "(II)I"⟩ : MethodName)
abbrev jy15 : MethodName := (⟨"java/lang/StringLatin1", "indexOfChar", "([BIII)I"⟩ : MethodName)
abbrev jy16 : MethodName := (⟨"java/lang/StringLatin1", "indexOf", "([BIII)I"⟩ : MethodName)
abbrev jy17 : MethodName := (⟨"java/lang/String", "indexOf", "(II)I"⟩ : MethodName)
abbrev jy18 : MethodName := (⟨"java/lang/String", "indexOf", "(I)I"⟩ : MethodName)
abbrev jy19 : MethodName := (⟨"java/lang/StringLatin1", "equals", "([B[B)Z"⟩ : MethodName)
abbrev jy20 : MethodName := (⟨"java/lang/String", "equals", "(Ljava/lang/Object;)Z"⟩ : MethodName)
abbrev jy21 : MethodName := (⟨"com/example/waldrapp/waldrapp/IntentEqualsPinLaw", "idC", "(II)C"⟩ : MethodName)
abbrev jy22 : MethodName := (⟨"com/example/waldrapp/waldrapp/IntentEqualsPinLaw", "idLen", "(I)I"⟩ : MethodName)
abbrev jy23 : MethodName := (⟨"com/example/waldrapp/waldrapp/IntentEqualsPinLaw", "payLen", "(I)I"⟩ : MethodName)
abbrev jy24 : MethodName := (⟨"com/example/waldrapp/waldrapp/IntentEqualsPinLaw", "payC", "(II)C"⟩ : MethodName)
abbrev jy25 : MethodName := (⟨"com/example/waldrapp/waldrapp/IntentEqualsPinLaw", "idOf", "(I)Ljava/lang/String;"⟩ : MethodName)
abbrev jy26 : MethodName := (⟨"com/example/waldrapp/waldrapp/IntentEqualsPinLaw", "payOf", "(I)Ljava/lang/String;"⟩ : MethodName)
abbrev jy27 : MethodName := (⟨"java/lang/String", "isEmpty", "()Z"⟩ : MethodName)
abbrev jy28 : MethodName := (⟨"com/example/waldrapp/waldrapp/Intent", "isId", "(Ljava/lang/String;)Z"⟩ : MethodName)
abbrev jy29 : MethodName := (⟨"java/util/Optional", "empty", "()Ljava/util/Optional;"⟩ : MethodName)
abbrev jy30 : MethodName := (⟨"java/util/Optional", "isPresent", "()Z"⟩ : MethodName)
abbrev jy31 : MethodName := (⟨"java/lang/Character", "charCount", "(I)I"⟩ : MethodName)
abbrev jy32 : MethodName := (⟨"java/lang/String", "codePointAt", "(I)I"⟩ : MethodName)
abbrev jy33 : MethodName := (⟨"com/example/waldrapp/waldrapp/Intent", "utf8Length", "(Ljava/lang/String;)I"⟩ : MethodName)
abbrev jy34 : MethodName := (⟨"com/example/waldrapp/waldrapp/Intent", "payloadProblem", "(Ljava/lang/String;)Ljava/util/Optional;"⟩ : MethodName)
abbrev jy35 : MethodName := (⟨"com/example/waldrapp/waldrapp/Intent", "<init>", "(Ljava/lang/String;Ljava/lang/String;)V"⟩ : MethodName)
abbrev jy36 : MethodName := (⟨"com/example/waldrapp/waldrapp/Intent", "equals", "(Ljava/lang/Object;)Z"⟩ : MethodName)
abbrev jy37 : MethodName := (⟨"com/example/waldrapp/waldrapp/Intent", "id", "()Ljava/lang/String;"⟩ : MethodName)
abbrev jy38 : MethodName := (⟨"com/example/waldrapp/waldrapp/IntentEqualsPinLaw", "idEq", "(II)Z"⟩ : MethodName)
abbrev jy39 : MethodName := (⟨"com/example/waldrapp/waldrapp/IntentEqualsPinLaw", "payEq", "(II)Z"⟩ : MethodName)
abbrev jr0 : Room := ({ frames := 0, cells := 0, slots := 0, locals := 0 } : Room)
abbrev jr1 : Room := ({ frames := 1, cells := 0, slots := 0, locals := 13 } : Room)
abbrev jr2 : Room := ({ frames := 1, cells := 0, slots := 0, locals := 14 } : Room)
abbrev jr3 : Room := ({ frames := 2, cells := 0, slots := 0, locals := 27 } : Room)
abbrev jr4 : Room := ({ frames := 3, cells := 0, slots := 0, locals := 40 } : Room)
abbrev jr5 : Room := ({ frames := 1, cells := 1, slots := 2, locals := 18 } : Room)
abbrev jr6 : Room := ({ frames := 2, cells := 1, slots := 2, locals := 35 } : Room)
abbrev jr7 : Room := ({ frames := 3, cells := 1, slots := 2, locals := 52 } : Room)
abbrev jr8 : Room := ({ frames := 1, cells := 0, slots := 0, locals := 17 } : Room)
abbrev jr9 : Room := ({ frames := 2, cells := 0, slots := 0, locals := 32 } : Room)
abbrev jr10 : Room := ({ frames := 3, cells := 0, slots := 0, locals := 46 } : Room)
abbrev jr11 : Room := ({ frames := 1, cells := 4, slots := 8, locals := 12 } : Room)
abbrev jr12 : Room := ({ frames := 2, cells := 4, slots := 8, locals := 29 } : Room)
abbrev jr13 : Room := ({ frames := 4, cells := 2, slots := 268, locals := 53 } : Room)
abbrev jr14 : Room := ({ frames := 5, cells := 7, slots := 544, locals := 73 } : Room)
abbrev jr15 : Room := ({ frames := 4, cells := 6, slots := 12, locals := 66 } : Room)
abbrev jr16 : Room := ({ frames := 4, cells := 0, slots := 0, locals := 53 } : Room)
abbrev jr17 : Room := ({ frames := 2, cells := 0, slots := 0, locals := 26 } : Room)
abbrev jr18 : Room := ({ frames := 3, cells := 0, slots := 0, locals := 41 } : Room)
abbrev jr19 : Room := ({ frames := 4, cells := 0, slots := 0, locals := 59 } : Room)
abbrev jr20 : Room := ({ frames := 5, cells := 0, slots := 0, locals := 73 } : Room)
abbrev jr21 : Room := ({ frames := 2, cells := 0, slots := 0, locals := 28 } : Room)
abbrev jr22 : Room := ({ frames := 5, cells := 8, slots := 1072, locals := 69 } : Room)
abbrev jr23 : Room := ({ frames := 1, cells := 0, slots := 0, locals := 15 } : Room)
abbrev jF0 (Z : State) (h : Heap) (a : Addr) (v : Value) : Prop := Fld Z h a "java/lang/String" "coder" "B" v
abbrev jF1 (Z : State) (h : Heap) (a : Addr) (v : Value) : Prop := Fld Z h a "java/lang/String" "value" "[B" v
abbrev jF2 (Z : State) (h : Heap) (a : Addr) (v : Value) : Prop := Fld Z h a "java/util/Optional" "value" "Ljava/lang/Object;" v
abbrev jF3 (Z : State) (h : Heap) (a : Addr) (v : Value) : Prop := Fld Z h a "com/example/waldrapp/waldrapp/Intent" "id" "Ljava/lang/String;" v
abbrev jF4 (Z : State) (h : Heap) (a : Addr) (v : Value) : Prop := Fld Z h a "com/example/waldrapp/waldrapp/Intent" "payload" "Ljava/lang/String;" v
abbrev jF5 (Z : State) (h : Heap) (a : Addr) (v : Value) : Prop := Fld Z h a "com/example/waldrapp/waldrapp/Intent" "size" "I" v
abbrev jE0 (Z : State) (h : Heap) (a : Addr) : Prop := Exa Z h a "java/lang/String"
abbrev jE1 (Z : State) (h : Heap) (a : Addr) : Prop := Exa Z h a "com/example/waldrapp/waldrapp/Intent"
abbrev jE2 (Z : State) (h : Heap) (a : Addr) : Prop := Exa Z h a "java/util/Optional"
abbrev jD0 (pc : Nat) (i : Jvm.ClassFile.Instr × Nat) : Prop := Jvm.ClassFile.decode jdk_42_method_152_code pc = .ok i
abbrev jD1 (pc : Nat) (i : Jvm.ClassFile.Instr × Nat) : Prop := Jvm.ClassFile.decode jdk_42_method_54_code pc = .ok i
abbrev jD2 (pc : Nat) (i : Jvm.ClassFile.Instr × Nat) : Prop := Jvm.ClassFile.decode jdk_41_method_11_code pc = .ok i
abbrev jD3 (pc : Nat) (i : Jvm.ClassFile.Instr × Nat) : Prop := Jvm.ClassFile.decode jdk_42_method_155_code pc = .ok i
abbrev jD4 (pc : Nat) (i : Jvm.ClassFile.Instr × Nat) : Prop := Jvm.ClassFile.decode jdk_42_method_154_code pc = .ok i
abbrev jD5 (pc : Nat) (i : Jvm.ClassFile.Instr × Nat) : Prop := Jvm.ClassFile.decode jdk_43_method_2_code pc = .ok i
abbrev jD6 (pc : Nat) (i : Jvm.ClassFile.Instr × Nat) : Prop := Jvm.ClassFile.decode jdk_42_method_56_code pc = .ok i
abbrev jD7 (pc : Nat) (i : Jvm.ClassFile.Instr × Nat) : Prop := Jvm.ClassFile.decode jdk_52_method_21_code pc = .ok i
abbrev jD8 (pc : Nat) (i : Jvm.ClassFile.Instr × Nat) : Prop := Jvm.ClassFile.decode jdk_52_method_16_code pc = .ok i
abbrev jD9 (pc : Nat) (i : Jvm.ClassFile.Instr × Nat) : Prop := Jvm.ClassFile.decode jdk_52_method_15_code pc = .ok i
abbrev jD10 (pc : Nat) (i : Jvm.ClassFile.Instr × Nat) : Prop := Jvm.ClassFile.decode jdk_42_method_149_code pc = .ok i
abbrev jD11 (pc : Nat) (i : Jvm.ClassFile.Instr × Nat) : Prop := Jvm.ClassFile.decode jdk_42_method_3_code pc = .ok i
abbrev jD12 (pc : Nat) (i : Jvm.ClassFile.Instr × Nat) : Prop := Jvm.ClassFile.decode jdk_43_method_4_code pc = .ok i
abbrev jD13 (pc : Nat) (i : Jvm.ClassFile.Instr × Nat) : Prop := Jvm.ClassFile.decode jdk_29_method_65_code pc = .ok i
abbrev jD14 (pc : Nat) (i : Jvm.ClassFile.Instr × Nat) : Prop := Jvm.ClassFile.decode jdk_29_method_69_code pc = .ok i
abbrev jD15 (pc : Nat) (i : Jvm.ClassFile.Instr × Nat) : Prop := Jvm.ClassFile.decode jdk_43_method_23_code pc = .ok i
abbrev jD16 (pc : Nat) (i : Jvm.ClassFile.Instr × Nat) : Prop := Jvm.ClassFile.decode jdk_43_method_22_code pc = .ok i
abbrev jD17 (pc : Nat) (i : Jvm.ClassFile.Instr × Nat) : Prop := Jvm.ClassFile.decode jdk_42_method_80_code pc = .ok i
abbrev jD18 (pc : Nat) (i : Jvm.ClassFile.Instr × Nat) : Prop := Jvm.ClassFile.decode jdk_42_method_79_code pc = .ok i
abbrev jD19 (pc : Nat) (i : Jvm.ClassFile.Instr × Nat) : Prop := Jvm.ClassFile.decode jdk_43_method_13_code pc = .ok i
abbrev jD20 (pc : Nat) (i : Jvm.ClassFile.Instr × Nat) : Prop := Jvm.ClassFile.decode jdk_42_method_66_code pc = .ok i
abbrev jD21 (pc : Nat) (i : Jvm.ClassFile.Instr × Nat) : Prop := Jvm.ClassFile.decode method_2_code pc = .ok i
abbrev jD22 (pc : Nat) (i : Jvm.ClassFile.Instr × Nat) : Prop := Jvm.ClassFile.decode method_3_code pc = .ok i
abbrev jD23 (pc : Nat) (i : Jvm.ClassFile.Instr × Nat) : Prop := Jvm.ClassFile.decode method_6_code pc = .ok i
abbrev jD24 (pc : Nat) (i : Jvm.ClassFile.Instr × Nat) : Prop := Jvm.ClassFile.decode method_7_code pc = .ok i
abbrev jD25 (pc : Nat) (i : Jvm.ClassFile.Instr × Nat) : Prop := Jvm.ClassFile.decode method_4_code pc = .ok i
abbrev jD26 (pc : Nat) (i : Jvm.ClassFile.Instr × Nat) : Prop := Jvm.ClassFile.decode method_8_code pc = .ok i
abbrev jD27 (pc : Nat) (i : Jvm.ClassFile.Instr × Nat) : Prop := Jvm.ClassFile.decode jdk_42_method_55_code pc = .ok i
abbrev jD28 (pc : Nat) (i : Jvm.ClassFile.Instr × Nat) : Prop := Jvm.ClassFile.decode prog_14_method_5_code pc = .ok i
abbrev jD29 (pc : Nat) (i : Jvm.ClassFile.Instr × Nat) : Prop := Jvm.ClassFile.decode jdk_32_method_1_code pc = .ok i
abbrev jD30 (pc : Nat) (i : Jvm.ClassFile.Instr × Nat) : Prop := Jvm.ClassFile.decode jdk_32_method_6_code pc = .ok i
abbrev jD31 (pc : Nat) (i : Jvm.ClassFile.Instr × Nat) : Prop := Jvm.ClassFile.decode jdk_89_method_18_code pc = .ok i
abbrev jD32 (pc : Nat) (i : Jvm.ClassFile.Instr × Nat) : Prop := Jvm.ClassFile.decode jdk_42_method_57_code pc = .ok i
abbrev jD33 (pc : Nat) (i : Jvm.ClassFile.Instr × Nat) : Prop := Jvm.ClassFile.decode prog_14_method_8_code pc = .ok i
abbrev jD34 (pc : Nat) (i : Jvm.ClassFile.Instr × Nat) : Prop := Jvm.ClassFile.decode prog_14_method_6_code pc = .ok i
abbrev jD35 (pc : Nat) (i : Jvm.ClassFile.Instr × Nat) : Prop := Jvm.ClassFile.decode prog_14_method_1_code pc = .ok i
abbrev jD36 (pc : Nat) (i : Jvm.ClassFile.Instr × Nat) : Prop := Jvm.ClassFile.decode prog_14_method_9_code pc = .ok i
abbrev jD37 (pc : Nat) (i : Jvm.ClassFile.Instr × Nat) : Prop := Jvm.ClassFile.decode prog_14_method_2_code pc = .ok i
abbrev jD38 (pc : Nat) (i : Jvm.ClassFile.Instr × Nat) : Prop := Jvm.ClassFile.decode method_5_code pc = .ok i
abbrev jD39 (pc : Nat) (i : Jvm.ClassFile.Instr × Nat) : Prop := Jvm.ClassFile.decode method_9_code pc = .ok i
abbrev jQ0 (Z : State) : Nat := RoadKit.slotOf Z "java/lang/String" "value" "[B"
abbrev jQ1 (Z : State) : Nat := RoadKit.slotOf Z "java/lang/String" "coder" "B"
abbrev jQ2 (Z : State) : Nat := RoadKit.slotOf Z "com/example/waldrapp/waldrapp/Intent" "payload" "Ljava/lang/String;"
abbrev jQ3 (Z : State) : Nat := RoadKit.slotOf Z "com/example/waldrapp/waldrapp/Intent" "id" "Ljava/lang/String;"
abbrev jQ4 (Z : State) : Nat := RoadKit.slotOf Z "com/example/waldrapp/waldrapp/Intent" "size" "I"
def own_T (Z : State) (h : Heap) (a : Addr) (ty : FieldType) (z : Int32) (f : Int32 → Int32) : Prop := ∃ c : Cell, Arr Z h a c ty ∧ c.slots.size = z.toNatClampNeg ∧ ¬ z < 0 ∧ ∀ j : Int32, ¬ (j < 0 ∨ c.slots.size ≤ j.toNatClampNeg) → c.slots[j.toNatClampNeg]? = some (.int (f j))
def own_up (f : Int32 → Int32) (j x : Int32) : Int32 → Int32 := fun i => if j = i then x else f i
section OwnT
variable {Z : State} {h h' : Heap} {a b : Addr} {ty : FieldType} {z : Int32} {f g : Int32 → Int32}
theorem own_T.lt (F : own_T Z h a ty z f) : a < h.size := by obtain ⟨c, A, -⟩ := F; exact A.lt
theorem own_T.ext (F : own_T Z h a ty z f) (E : Ext h h') : own_T Z h' a ty z f := by obtain ⟨c, A, r⟩ := F; exact ⟨c, A.ext E, r⟩
theorem own_T.other {sl : Nat} {v : Value} (F : own_T Z h a ty z f) (W : Wr h h' b sl v) (q : a ≠ b) : own_T Z h' a ty z f := by obtain ⟨c, A, r⟩ := F; exact ⟨c, A.other W q, r⟩
theorem own_T.keep {ws : List Addr} (F : own_T Z h a ty z f) (K : Keep h h' ws) (q : a ∉ ws) : own_T Z h' a ty z f := by obtain ⟨c, A, r⟩ := F; exact ⟨c, ⟨K.2.1 a c A.1 q, A.2⟩, r⟩
theorem own_T.congr (F : own_T Z h a ty z f) (q : ∀ j : Int32, ¬ j < 0 ∧ j < z → f j = g j) : own_T Z h a ty z g := by
  obtain ⟨c, A, S, N, H⟩ := F
  refine ⟨c, A, S, N, fun j hj => ?_⟩
  have h1 : ¬ j < 0 := fun y => hj (Or.inl y)
  have h2 : j < z := by
    have h3 : ¬ c.slots.size ≤ j.toNatClampNeg := fun y => hj (Or.inr y)
    rw [S] at h3
    have e1 := nat_of h1
    have e2 := nat_of N
    rw [Int32.lt_iff_toInt_lt]; omega
  rw [H j hj, q j ⟨h1, h2⟩]
theorem own_T.set {j x : Int32} (F : own_T Z h a ty z f) (W : Wr h h' a j.toNatClampNeg (.int x)) (q : ¬ j < 0 ∧ j < z) : own_T Z h' a ty z (own_up f j x) := by
  obtain ⟨c, A, S, N, H⟩ := F
  refine ⟨_, A.same W, by rw [sz_set]; exact S, N, fun i hi => ?_⟩
  rw [sz_set] at hi
  unfold own_up
  by_cases e : j = i
  · rw [if_pos e]; exact get_hit (inb_of S q) e.symm
  · rw [if_neg e, get_miss q.1 (fun y => hi (Or.inl y)) (Ne.symm e)]; exact H i hi
theorem own_T.new {k : ClassId} (A : Arr Z h a (newA k ty z) ty) (q : ¬ z < 0) (d : defaultValue ty = .int 0) : own_T Z h a ty z (fun _ => 0) :=
  ⟨_, A, sz_new _ _ _, q, fun j hj => by rw [← d]; exact get_new (by rw [sz_new] at hj; exact hj)⟩
end OwnT
theorem own_NSroot {Z : State} {a0 : Array Value} {O K : String} {n : Nat} (w : (Jvm.Cond.noSuperclass O).before a0 Z = true) (wk : (Jvm.Cond.instantiable K n).before a0 Z = true) (hn : O ≠ K) : NS Z O K := by
  obtain ⟨c, k, h1, h2, h3, -, -⟩ := Cond.noSuperclass_spec w
  obtain ⟨t, -, g1, -⟩ := Cond.instantiable_spec wk
  have ne := ids_ne h1 g1 hn
  refine ⟨c, t, h1, g1, fun fuel => ?_⟩
  match fuel with
  | 0 => rfl
  | f + 1 => simp [Vm.isSubclassAux, ne, h2, h3]
theorem own_NSno {Z : State} {a0 : Array Value} {C S K : String} {n : Nat} (w : (Jvm.Cond.superclass C S).before a0 Z = true) (wk : (Jvm.Cond.instantiable K n).before a0 Z = true) (q : NS Z C K) (hn : C ≠ K) : ∃ c t, Z.vm.findClass C = some c ∧ Z.vm.findClass K = some t ∧ Z.vm.assignable c t = false := by
  obtain ⟨c, t, h0, g0, n3⟩ := q
  obtain ⟨_, k, _, -, h2, -, -, h5, -, h7⟩ := Cond.superclass_spec h0 w
  obtain ⟨t', k', g1, g2, g5, g7, -, -⟩ := Cond.instantiable_spec wk
  cases g0.symm.trans g1
  have g8 : k'.isInterface = false := by cases hq : k'.isInterface <;> simp [hq] at g7 ⊢
  have ne := ids_ne h0 g0 hn
  refine ⟨c, t, h0, g0, ?_⟩
  show Z.vm.assignableAux (255 + 1) c t = false
  simp [Vm.assignableAux, ne, h2, g2, h5, g5, g8, Vm.isSubclass, n3]
theorem own_T.nn {Z : State} {h : Heap} {a : Addr} {ty : FieldType} {z : Int32} {f : Int32 → Int32} (F : own_T Z h a ty z f) : ¬ z < 0 := by obtain ⟨_, _, _, N, _⟩ := F; exact N
theorem own_bk {z : Int32} (h : ¬ z < 0) : Int32.ofNat z.toNatClampNeg = z := (back32 h).1
theorem own_nlt {z : Int32} (h : ¬ z < 0) : ¬ (Int32.ofNat z.toNatClampNeg < z) := by rw [own_bk h]; exact Int32.lt_irrefl (a := z)
theorem own_i32 {z : Int32} {i : Nat} (h : ¬ z < 0) (q : i < z.toNatClampNeg) : (Int32.ofNat i).toInt = i := by
  have := (back32 h).2
  exact Int32.toInt_ofNat_of_lt (by omega)
theorem own_ltz {z : Int32} {i : Nat} (h : ¬ z < 0) (q : i < z.toNatClampNeg) : Int32.ofNat i < z := by
  rw [Int32.lt_iff_toInt_lt, own_i32 h q, nat_of h]; omega
theorem own_nn {z : Int32} {i : Nat} (h : ¬ z < 0) (q : i < z.toNatClampNeg) : ¬ Int32.ofNat i < 0 := by
  rw [Int32.lt_iff_toInt_lt, own_i32 h q, show (0 : Int32).toInt = 0 from rfl]; omega
theorem own_cl {z : Int32} {i : Nat} (h : ¬ z < 0) (q : i < z.toNatClampNeg) : (Int32.ofNat i).toNatClampNeg = i := by
  rw [Int32.toNatClampNeg, own_i32 h q]; rfl
theorem own_one (i : Nat) : Int32.ofNat i + (1 : Int32) = Int32.ofNat (i + 1) := (Int32.ofNat_add i 1).symm
theorem own_jn {j z : Int32} (h1 : ¬ j < 0) (h0 : ¬ z < 0) (h2 : j < z) : j.toNatClampNeg < z.toNatClampNeg := by
  rw [Int32.lt_iff_toInt_lt, nat_of h1, nat_of h0] at h2; omega
theorem own_inz {z : Int32} {i : Nat} (h : ¬ z < 0) (q : i < z.toNatClampNeg) : ¬ Int32.ofNat i < 0 ∧ Int32.ofNat i < z := ⟨own_nn h q, own_ltz h q⟩
theorem own_upf {g q : Int32 → Int32} {z x : Int32} {i : Nat} (hz : ¬ z < 0) (hi : i < z.toNatClampNeg) (h : ∀ j : Int32, ¬ j < 0 → j.toNatClampNeg < i → g j = q j) (e : x = q (Int32.ofNat i)) : ∀ j : Int32, ¬ j < 0 → j.toNatClampNeg < i + 1 → own_up g (Int32.ofNat i) x j = q j := by
  intro j h1 h2
  unfold own_up
  by_cases c : Int32.ofNat i = j
  · rw [if_pos c, e, c]
  · rw [if_neg c]
    refine h j h1 (Nat.lt_of_le_of_ne (by omega) fun y => c ?_)
    apply Int32.toInt_inj.mp
    rw [own_i32 hz hi, nat_of h1, y]
def own_ch (b : Int32) : Int32 := b &&& (255 : Int32)
theorem own_shr0 (z : Int32) : (z >>> ((0 : Int32) &&& 31)) = z := by
  apply Int32.toInt_inj.mp
  rw [c_ishr z 0 0 rfl]; simp
theorem own_chb (x : Int32) : 0 ≤ (x &&& (255 : Int32)).toInt ∧ (x &&& (255 : Int32)).toInt ≤ 255 := by
  have m := c_mask x (255 : Int32) 8 (by decide) (by decide)
  rw [m]; omega
theorem own_i2c {x : Int32} (h0 : 0 ≤ x.toInt) (h1 : x.toInt ≤ 65535) : x.toUInt32.toUInt16.toUInt32.toInt32 = x := by
  apply Int32.toInt_inj.mp
  have := c_i2c x
  omega
theorem own_nch {x : Int32} (h0 : 0 ≤ x.toInt) (h1 : x.toInt ≤ 65535) : nar .char x = x := own_i2c h0 h1
theorem own_chr (x : Int32) : nar .char ((x &&& (255 : Int32)).toUInt32.toUInt16.toUInt32.toInt32) = own_ch x := by
  have b := own_chb x
  rw [own_i2c b.1 (by omega), own_nch b.1 (by omega)]; rfl
theorem own_cfa (z : Int32) : (((z - z).toUInt32 >>> ((31 : Int32) &&& 31).toUInt32).toInt32).toInt8.toInt32 = (0 : Int32) := by
  have e : z - z = (0 : Int32) := Int32.sub_self z
  rw [e]; decide
theorem own_i8 (x : Int32) : nar .byte (x.toInt8.toInt32) = x.toInt8.toInt32 := by
  show x.toInt8.toInt32.toInt8.toInt32 = x.toInt8.toInt32
  simp
theorem own_ltn {x : Int32} (h1 : x.toInt ≤ 255) : ¬ (255 : Int32) < x := by
  rw [Int32.lt_iff_toInt_lt, show (255 : Int32).toInt = 255 from rfl]; omega
theorem e21_0 : jD0 0 (.getstatic 38, 3) ∧ jD0 3 (.ifCond .eq 10, 3) ∧ jD0 6 (.aload_n 0, 1) ∧ jD0 7 (.getfield 15, 3) := by decide +kernel
theorem e21_10 : jD0 10 (.goto 4, 3) ∧ jD0 14 (.ireturn, 1) := by decide +kernel
theorem own_pn_java_lang_String : plainName "java/lang/String" = true := by first | (simp [plainName, overriddenIn]; done) | decide +kernel
theorem own_ef_rm_coder (mM : MethodId) (x0 : Addr) : entryFrame mM #[(.ref x0)] 1 = mkF mM 0 #[.val (.ref x0)] [] := by first | (simp [entryFrame, mkF, argsToLocals, Value.category]; done) | rfl
def Q_rm_coder (Z : State) (a : Addr) (cs : Int32) (h0 : Heap) (n0 : Nat) (vV : Option Value) (hH : Heap) (lA : List Loc) : Prop := vV = some (.int (0 : Int32)) ∧ Fr n0 lA ∧ (hH = h0)
set_option maxRecDepth 65536 in
set_option maxHeartbeats 40000000 in
theorem rm_coder (lL : Launch) (Z : State) (a0 : Array Value) (hw : own_H a0 Z) (ws : List Jvm.Cond) (a : Addr) (cs : Int32) (h0 : Heap) (n0 : Nat) (Z0 : n0 ≤ h0.size) (Oo : Old Z n0 h0) (Scs : Sta Z Z.heap "java/lang/String" "COMPACT_STRINGS" "Z" (.int cs)) (ncs : ¬ (cs = (0 : Int32))) (Fc : jF0 Z h0 a (.int (0 : Int32))) :
    own_Met lL jy0 (Jvm.Cond.code jy0 jdk_42_method_152_code 1 (some .byte) :: ws) jr0 #[(.ref a)] Z h0 (Q_rm_coder Z a cs h0 n0) := by
  refine own_begin (plainFor_of_name own_pn_java_lang_String) (fun mM => own_ef_rm_coder mM a) fun pP eE sS mM below meth cC s₁ hx hby hml hZ hown hnm hre hlk X0 e0 => ?_
  have hC := @Jvm.hb _ _ hby
  have N0 := Fr.nil n0
  have K0 := Keep.refl h0 ([] : List Addr)
  obtain ⟨T1_, X1_, e1_, st1_⟩ := getS2 X0 hx hZ hown (host := "") (Or.inl (jk hw 28 rfl)) Via.refl e0 (own_StaKeep Oo Scs) (g := (mkF mM 0 #[vR a] [])) rfl (hC e21_0.1)
  refine own_fin st1_ ?_
  refine jg T1_ mM 7 #[vR a] [(.ref a)] (fun tT kK => ?_) ?_
  · refine XS.ifNo X1_.here hx rfl (hC e21_0.2.1) rfl ((if0 _ _).trans (feq (ncs : ¬ (cs = (0 : Int32)))).1) ?_
    refine XS.aloadN X1_.here hx rfl (hC e21_0.2.2.1) rfl rfl ?_
    exact kK
  refine jf X1_ hx hZ hown (jk hw 29 rfl) e1_ Fc (hC e21_0.2.2.2) fun T2_ X2_ e2_ => ?_
  refine jg T2_ mM 14 #[vR a] [(.int (0 : Int32))] (fun tT kK => ?_) ?_
  · refine XS.goto X2_.here hx rfl (pc0 := 10) (pc' := 14) rfl (hC e21_10.1) (by decide) (by decide) ?_
    exact kK
  exact own_rL X2_ hx hlk hre (by simp) (hC e21_10.2) (w := (.int (0 : Int32))) rfl e2_ (by decide) (by decide) ⟨rfl, N0, rfl⟩
theorem e20_0 : jD1 0 (.aload_n 0, 1) ∧ jD1 1 (.getfield 9, 3) ∧ jD1 4 (.arraylength, 1) ∧ jD1 5 (.aload_n 0, 1) := by decide +kernel
theorem d20_6 : jD1 6 (.invokevirtual 335, 3) := by decide +kernel
theorem own_pd0 : parseMethodDescriptor "()B" = some ⟨[], some .byte⟩ := by decide +kernel
theorem e20_9 : jD1 9 (.ishr, 1) ∧ jD1 10 (.ireturn, 1) := by decide +kernel
theorem own_ef_rm_slen (mM : MethodId) (x0 : Addr) : entryFrame mM #[(.ref x0)] 1 = mkF mM 0 #[.val (.ref x0)] [] := by first | (simp [entryFrame, mkF, argsToLocals, Value.category]; done) | rfl
def Q_rm_slen (Z : State) (a : Addr) (t : Addr) (z : Int32) (f : Int32 → Int32) (cs : Int32) (h0 : Heap) (n0 : Nat) (vV : Option Value) (hH : Heap) (lA : List Loc) : Prop := vV = some (.int z) ∧ Fr n0 lA ∧ (hH = h0)
set_option maxRecDepth 65536 in
set_option maxHeartbeats 40000000 in
theorem rm_slen (lL : Launch) (Z : State) (a0 : Array Value) (hw : own_H a0 Z) (ws : List Jvm.Cond) (a : Addr) (t : Addr) (z : Int32) (f : Int32 → Int32) (cs : Int32) (h0 : Heap) (n0 : Nat) (Z0 : n0 ≤ h0.size) (Oo : Old Z n0 h0) (Scs : Sta Z Z.heap "java/lang/String" "COMPACT_STRINGS" "Z" (.int cs)) (ncs : ¬ (cs = (0 : Int32))) (Ea : jE0 Z h0 a) (Fv : jF1 Z h0 a (.ref t)) (Fc : jF0 Z h0 a (.int (0 : Int32))) (Tt : own_T Z h0 t .byte z f) :
    own_Met lL jy1 (Jvm.Cond.code jy1 jdk_42_method_54_code 1 (some .int) :: ws) jr1 #[(.ref a)] Z h0 (Q_rm_slen Z a t z f cs h0 n0) := by
  refine own_begin (plainFor_of_name own_pn_java_lang_String) (fun mM => own_ef_rm_slen mM a) fun pP eE sS mM below meth cC s₁ hx hby hml hZ hown hnm hre hlk X0 e0 => ?_
  have hC := @Jvm.hb _ _ hby
  have N0 := Fr.nil n0
  have K0 := Keep.refl h0 ([] : List Addr)
  refine jg s₁ mM 1 #[vR a] [(.ref a)] (fun tT kK => ?_) ?_
  · refine XS.aloadN X0.here hx rfl (hC e20_0.1) rfl rfl ?_
    exact kK
  refine jf X0 hx hZ hown (jk hw 30 rfl) e0 Fv (hC e20_0.2.1) fun T1_ X1_ e1_ => ?_
  obtain ⟨cl2_, Ar2_, Sz2_, Nn2_, -⟩ := id Tt
  refine jg T1_ mM 6 #[vR a] [(.ref a), (.int z)] (fun tT kK => ?_) ?_
  · refine X1_.arraylength hx (own_rw e1_ Ar2_.1) (State.isArrayOf_alike hZ.alike Ar2_.2.1) (g := (mkF mM 4 #[vR a] [(.ref t)])) rfl rfl (hC e20_0.2.2.1) _ ?_
    rw [len_of Sz2_ Nn2_]
    refine XS.aloadN X1_.here hx rfl (hC e20_0.2.2.2) rfl rfl ?_
    exact kK
  refine jv X1_ hx hZ (y := jy0) hown (jk hw 92 rfl) (jk hw 93 rfl) (jk hw 95 rfl) (jk hw 94 rfl) (jk hw 96 rfl) (jk hw 11 rfl) (rm_coder lL Z a0 hw [] a cs h0 n0 (Nat.le_trans Z0 K0.1) Oo Scs ncs Fc) Ea e1_ own_pd0 [] [(.int z)] (hC d20_6) rfl rfl (by rw [hml]; rfl) (by decide) 1 (Nat.le_of_eq rfl) (by decide) (by decide) (by decide : 0 + 0 ≤ _) (by decide : 0 + 0 ≤ _) fun vv3_ T3_ L3_ X3_ hQ3_ => ?_
  obtain ⟨rfl, N3_q, p3__0⟩ := hQ3_
  have N3_ := Fr.app N0 N3_q
  refine jg T3_ mM 10 #[vR a] [(.int (z >>> ((0 : Int32) &&& 31)))] (fun tT kK => ?_) ?_
  · refine XS.ishr X3_.here hx rfl (hC e20_9.1) rfl ?_
    exact kK
  exact own_rr X3_ hx hlk hre rfl (Or.inl ⟨rfl, Or.inl rfl, _, rfl⟩) (hC e20_9.2) p3__0 (by decide) (by decide) ⟨by rw [own_shr0], N3_, rfl⟩
theorem e7_0 : jD2 0 (.iload_n 0, 1) ∧ jD2 1 (.ifCond .lt 8, 3) ∧ jD2 4 (.iload_n 0, 1) ∧ jD2 5 (.iload_n 1, 1) := by decide +kernel
theorem e7_6 : jD2 6 (.if_icmp .lt 10, 3) ∧ jD2 16 (.iload_n 0, 1) ∧ jD2 17 (.ireturn, 1) := by decide +kernel
theorem own_pn_jdk_internal_util_Preconditions : plainName "jdk/internal/util/Preconditions" = true := by first | (simp [plainName, overriddenIn]; done) | decide +kernel
theorem own_ef_rm_pre (mM : MethodId) (x0 : Int32) (x1 : Int32) (x2 : Value) (hr2 : x2.isRef = true) : entryFrame mM #[(.int x0), (.int x1), x2] 3 = mkF mM 0 #[.val (.int x0), .val (.int x1), .val x2] [] := by
  cases x2 <;> first | rfl | (simp [Value.isRef] at *; done)
def Q_rm_pre (Z : State) (i1 : Int32) (n1 : Int32) (fv : Value) (h0 : Heap) (n0 : Nat) (vV : Option Value) (hH : Heap) (lA : List Loc) : Prop := vV = some (.int i1) ∧ Fr n0 lA ∧ (hH = h0)
set_option maxRecDepth 65536 in
set_option maxHeartbeats 40000000 in
theorem rm_pre (lL : Launch) (Z : State) (a0 : Array Value) (hw : own_H a0 Z) (ws : List Jvm.Cond) (i1 : Int32) (n1 : Int32) (fv : Value) (h0 : Heap) (n0 : Nat) (Z0 : n0 ≤ h0.size) (rfv : fv.isRef = true) (h1 : ¬ (i1 < (0 : Int32))) (h2 : i1 < n1) :
    own_Met lL jy2 (Jvm.Cond.code jy2 jdk_41_method_11_code 3 (some .int) :: ws) jr0 #[(.int i1), (.int n1), fv] Z h0 (Q_rm_pre Z i1 n1 fv h0 n0) := by
  refine own_begin (plainFor_of_name own_pn_jdk_internal_util_Preconditions) (fun mM => own_ef_rm_pre mM i1 n1 fv rfv) fun pP eE sS mM below meth cC s₁ hx hby hml hZ hown hnm hre hlk X0 e0 => ?_
  have hC := @Jvm.hb _ _ hby
  have N0 := Fr.nil n0
  have K0 := Keep.refl h0 ([] : List Addr)
  refine jg s₁ mM 17 #[vI i1, vI n1, .val fv] [(.int i1)] (fun tT kK => ?_) ?_
  · refine XS.iloadN X0.here hx rfl (hC e7_0.1) rfl ?_
    refine XS.ifNo X0.here hx rfl (hC e7_0.2.1) rfl ((if0 _ _).trans (flt (h1 : ¬ (i1 < (0 : Int32)))).1) ?_
    refine XS.iloadN X0.here hx rfl (hC e7_0.2.2.1) rfl ?_
    refine XS.iloadN X0.here hx rfl (hC e7_0.2.2.2) rfl ?_
    refine XS.icmpYes X0.here hx rfl (pc0 := 6) (pc' := 16) rfl (hC e7_6.1) rfl (tlt (h2 : i1 < n1)).1 (by decide) (by decide) ?_
    refine XS.iloadN X0.here hx rfl (hC e7_6.2.1) rfl ?_
    exact kK
  exact own_rr X0 hx hlk hre rfl (Or.inl ⟨rfl, Or.inl rfl, _, rfl⟩) (hC e7_6.2.2) e0 (by decide) (by decide) ⟨rfl, N0, rfl⟩
theorem e6_0 : jD3 0 (.iload_n 0, 1) ∧ jD3 1 (.iload_n 1, 1) ∧ jD3 2 (.getstatic 1053, 3) ∧ jD3 5 (.invokestatic 1059, 3) := by decide +kernel
theorem own_pd1 : parseMethodDescriptor "(IILjava/util/function/BiFunction;)I" = some ⟨[.int, .int, (.object "java/util/function/BiFunction")], some .int⟩ := by decide +kernel
theorem e6_8 : jD3 8 (.pop, 1) ∧ jD3 9 (.return_, 1) := by decide +kernel
theorem own_ef_rm_chk (mM : MethodId) (x0 : Int32) (x1 : Int32) : entryFrame mM #[(.int x0), (.int x1)] 2 = mkF mM 0 #[.val (.int x0), .val (.int x1)] [] := by first | (simp [entryFrame, mkF, argsToLocals, Value.category]; done) | rfl
def Q_rm_chk (Z : State) (i1 : Int32) (n1 : Int32) (fv : Value) (h0 : Heap) (n0 : Nat) (vV : Option Value) (hH : Heap) (lA : List Loc) : Prop := vV = none ∧ Fr n0 lA ∧ (hH = h0)
set_option maxRecDepth 65536 in
set_option maxHeartbeats 40000000 in
theorem rm_chk (lL : Launch) (Z : State) (a0 : Array Value) (hw : own_H a0 Z) (ws : List Jvm.Cond) (i1 : Int32) (n1 : Int32) (fv : Value) (h0 : Heap) (n0 : Nat) (Z0 : n0 ≤ h0.size) (Oo : Old Z n0 h0) (Sfv : Sta Z Z.heap "jdk/internal/util/Preconditions" "SIOOBE_FORMATTER" "Ljava/util/function/BiFunction;" fv) (rfv : fv.isRef = true) (h1 : ¬ (i1 < (0 : Int32))) (h2 : i1 < n1) :
    own_Met lL jy3 (Jvm.Cond.code jy3 jdk_42_method_155_code 2 none :: ws) jr2 #[(.int i1), (.int n1)] Z h0 (Q_rm_chk Z i1 n1 fv h0 n0) := by
  refine own_begin (plainFor_of_name own_pn_java_lang_String) (fun mM => own_ef_rm_chk mM i1 n1) fun pP eE sS mM below meth cC s₁ hx hby hml hZ hown hnm hre hlk X0 e0 => ?_
  have hC := @Jvm.hb _ _ hby
  have N0 := Fr.nil n0
  have K0 := Keep.refl h0 ([] : List Addr)
  refine jg s₁ mM 2 #[vI i1, vI n1] [(.int n1), (.int i1)] (fun tT kK => ?_) ?_
  · refine XS.iloadN X0.here hx rfl (hC e6_0.1) rfl ?_
    refine XS.iloadN X0.here hx rfl (hC e6_0.2.1) rfl ?_
    exact kK
  obtain ⟨T1_, X1_, e1_, st1_⟩ := getS2 X0 hx hZ hown (host := "") (Or.inl (jk hw 38 rfl)) Via.refl e0 (own_StaKeep Oo Sfv) (g := (mkF mM 2 #[vI i1, vI n1] [(.int n1), (.int i1)])) rfl (hC e6_0.2.2.1)
  refine own_fin st1_ ?_
  refine jc X1_ hx hZ (y := jy2) hown (jk hw 40 rfl) (jk hw 41 rfl) (jk hw 39 rfl) (jk hw 42 rfl) (rm_pre lL Z a0 hw [] i1 n1 fv h0 n0 (Nat.le_trans Z0 K0.1) rfv h1 h2) e1_ own_pd1 [(.int i1), (.int n1), fv] [] (hC e6_0.2.2.2) rfl rfl (by rw [hml]; rfl) (by decide) 0 (Nat.le_of_eq rfl) (by decide) (by decide) (by decide : 0 + 0 ≤ _) (by decide : 0 + 0 ≤ _) fun vv2_ T2_ L2_ X2_ hQ2_ => ?_
  obtain ⟨rfl, N2_q, p2__0⟩ := hQ2_
  have N2_ := Fr.app N0 N2_q
  refine jg T2_ mM 9 #[vI i1, vI n1] [] (fun tT kK => ?_) ?_
  · refine XS.pop X2_.here hx rfl (hC e6_8.1) rfl rfl ?_
    exact kK
  exact own_rV X2_ hx hlk hre (hC e6_8.2) p2__0 (by decide) (by decide) ⟨rfl, N2_, rfl⟩
theorem e4_0 : jD4 0 (.getstatic 38, 3) ∧ jD4 3 (.ifCond .eq 14, 3) ∧ jD4 6 (.aload_n 0, 1) ∧ jD4 7 (.getfield 15, 3) := by decide +kernel
theorem e4_10 : jD4 10 (.ifCond .ne 7, 3) ∧ jD4 13 (.iconst 1, 1) ∧ jD4 14 (.goto 4, 3) ∧ jD4 18 (.ireturn, 1) := by decide +kernel
theorem own_ef_rm_isl (mM : MethodId) (x0 : Addr) : entryFrame mM #[(.ref x0)] 1 = mkF mM 0 #[.val (.ref x0)] [] := by first | (simp [entryFrame, mkF, argsToLocals, Value.category]; done) | rfl
def Q_rm_isl (Z : State) (a : Addr) (cs : Int32) (h0 : Heap) (n0 : Nat) (vV : Option Value) (hH : Heap) (lA : List Loc) : Prop := vV = some (.int (1 : Int32)) ∧ Fr n0 lA ∧ (hH = h0)
set_option maxRecDepth 65536 in
set_option maxHeartbeats 40000000 in
theorem rm_isl (lL : Launch) (Z : State) (a0 : Array Value) (hw : own_H a0 Z) (ws : List Jvm.Cond) (a : Addr) (cs : Int32) (h0 : Heap) (n0 : Nat) (Z0 : n0 ≤ h0.size) (Oo : Old Z n0 h0) (Scs : Sta Z Z.heap "java/lang/String" "COMPACT_STRINGS" "Z" (.int cs)) (ncs : ¬ (cs = (0 : Int32))) (Fc : jF0 Z h0 a (.int (0 : Int32))) :
    own_Met lL jy4 (Jvm.Cond.code jy4 jdk_42_method_154_code 1 (some .boolean) :: ws) jr0 #[(.ref a)] Z h0 (Q_rm_isl Z a cs h0 n0) := by
  refine own_begin (plainFor_of_name own_pn_java_lang_String) (fun mM => own_ef_rm_isl mM a) fun pP eE sS mM below meth cC s₁ hx hby hml hZ hown hnm hre hlk X0 e0 => ?_
  have hC := @Jvm.hb _ _ hby
  have N0 := Fr.nil n0
  have K0 := Keep.refl h0 ([] : List Addr)
  obtain ⟨T1_, X1_, e1_, st1_⟩ := getS2 X0 hx hZ hown (host := "") (Or.inl (jk hw 28 rfl)) Via.refl e0 (own_StaKeep Oo Scs) (g := (mkF mM 0 #[vR a] [])) rfl (hC e4_0.1)
  refine own_fin st1_ ?_
  refine jg T1_ mM 7 #[vR a] [(.ref a)] (fun tT kK => ?_) ?_
  · refine XS.ifNo X1_.here hx rfl (hC e4_0.2.1) rfl ((if0 _ _).trans (feq (ncs : ¬ (cs = (0 : Int32)))).1) ?_
    refine XS.aloadN X1_.here hx rfl (hC e4_0.2.2.1) rfl rfl ?_
    exact kK
  refine jf X1_ hx hZ hown (jk hw 29 rfl) e1_ Fc (hC e4_0.2.2.2) fun T2_ X2_ e2_ => ?_
  refine jg T2_ mM 18 #[vR a] [(.int (1 : Int32))] (fun tT kK => ?_) ?_
  · refine XS.ifNo X2_.here hx rfl (hC e4_10.1) rfl ((if0 _ _).trans (teq ((by decide) : (0 : Int32) = (0 : Int32))).2) ?_
    refine XS.iconst X2_.here hx rfl (hC e4_10.2.1) ?_
    refine XS.goto X2_.here hx rfl (pc0 := 14) (pc' := 18) rfl (hC e4_10.2.2.1) (by decide) (by decide) ?_
    exact kK
  exact own_rL X2_ hx hlk hre (by simp) (hC e4_10.2.2.2) (w := (.int (1 : Int32))) rfl e2_ (by decide) (by decide) ⟨rfl, N0, rfl⟩
theorem e5_0 : jD5 0 (.iload_n 1, 1) ∧ jD5 1 (.aload_n 0, 1) ∧ jD5 2 (.arraylength, 1) ∧ jD5 3 (.invokestatic 9, 3) := by decide +kernel
theorem own_pd2 : parseMethodDescriptor "(II)V" = some ⟨[.int, .int], none⟩ := by decide +kernel
theorem e5_6 : jD5 6 (.aload_n 0, 1) ∧ jD5 7 (.iload_n 1, 1) ∧ jD5 8 (.baload, 1) ∧ jD5 9 (.sipush 255, 3) := by decide +kernel
theorem e5_12 : jD5 12 (.iand, 1) ∧ jD5 13 (.i2c, 1) ∧ jD5 14 (.ireturn, 1) := by decide +kernel
theorem own_pn_java_lang_StringLatin1 : plainName "java/lang/StringLatin1" = true := by first | (simp [plainName, overriddenIn]; done) | decide +kernel
theorem own_ef_rm_l1ch (mM : MethodId) (x0 : Addr) (x1 : Int32) : entryFrame mM #[(.ref x0), (.int x1)] 2 = mkF mM 0 #[.val (.ref x0), .val (.int x1)] [] := by first | (simp [entryFrame, mkF, argsToLocals, Value.category]; done) | rfl
def Q_rm_l1ch (Z : State) (t : Addr) (i1 : Int32) (z : Int32) (f : Int32 → Int32) (fv : Value) (h0 : Heap) (n0 : Nat) (vV : Option Value) (hH : Heap) (lA : List Loc) : Prop := vV = some (.int (own_ch (f i1))) ∧ Fr n0 lA ∧ (hH = h0)
set_option maxRecDepth 65536 in
set_option maxHeartbeats 40000000 in
theorem rm_l1ch (lL : Launch) (Z : State) (a0 : Array Value) (hw : own_H a0 Z) (ws : List Jvm.Cond) (t : Addr) (i1 : Int32) (z : Int32) (f : Int32 → Int32) (fv : Value) (h0 : Heap) (n0 : Nat) (Z0 : n0 ≤ h0.size) (Oo : Old Z n0 h0) (Sfv : Sta Z Z.heap "jdk/internal/util/Preconditions" "SIOOBE_FORMATTER" "Ljava/util/function/BiFunction;" fv) (rfv : fv.isRef = true) (Tt : own_T Z h0 t .byte z f) (h1 : ¬ (i1 < (0 : Int32))) (h2 : i1 < z) :
    own_Met lL jy5 (Jvm.Cond.code jy5 jdk_43_method_2_code 2 (some .char) :: ws) jr3 #[(.ref t), (.int i1)] Z h0 (Q_rm_l1ch Z t i1 z f fv h0 n0) := by
  refine own_begin (plainFor_of_name own_pn_java_lang_StringLatin1) (fun mM => own_ef_rm_l1ch mM t i1) fun pP eE sS mM below meth cC s₁ hx hby hml hZ hown hnm hre hlk X0 e0 => ?_
  have hC := @Jvm.hb _ _ hby
  have N0 := Fr.nil n0
  have K0 := Keep.refl h0 ([] : List Addr)
  refine jg s₁ mM 2 #[vR t, vI i1] [(.ref t), (.int i1)] (fun tT kK => ?_) ?_
  · refine XS.iloadN X0.here hx rfl (hC e5_0.1) rfl ?_
    refine XS.aloadN X0.here hx rfl (hC e5_0.2.1) rfl rfl ?_
    exact kK
  obtain ⟨cl1_, Ar1_, Sz1_, Nn1_, -⟩ := id Tt
  refine jg s₁ mM 3 #[vR t, vI i1] [(.int z), (.int i1)] (fun tT kK => ?_) ?_
  · refine X0.arraylength hx (own_rw e0 Ar1_.1) (State.isArrayOf_alike hZ.alike Ar1_.2.1) (g := (mkF mM 2 #[vR t, vI i1] [(.ref t), (.int i1)])) rfl rfl (hC e5_0.2.2.1) _ ?_
    rw [len_of Sz1_ Nn1_]
    exact kK
  refine jc X0 hx hZ (y := jy3) hown (jk hw 35 rfl) (jk hw 36 rfl) (jk hw 11 rfl) (jk hw 37 rfl) (rm_chk lL Z a0 hw [] i1 z fv h0 n0 (Nat.le_trans Z0 K0.1) Oo Sfv rfv h1 h2) e0 own_pd2 [(.int i1), (.int z)] [] (hC e5_0.2.2.2) rfl rfl (by rw [hml]; rfl) (by decide) 0 (Nat.le_of_eq rfl) (by decide) (by decide) (by decide : 0 + 0 ≤ _) (by decide : 0 + 0 ≤ _) fun vv2_ T2_ L2_ X2_ hQ2_ => ?_
  obtain ⟨rfl, N2_q, p2__0⟩ := hQ2_
  have N2_ := Fr.app N0 N2_q
  refine jg T2_ mM 8 #[vR t, vI i1] [(.int i1), (.ref t)] (fun tT kK => ?_) ?_
  · refine XS.aloadN X2_.here hx rfl (hC e5_6.1) rfl rfl ?_
    refine XS.iloadN X2_.here hx rfl (hC e5_6.2.1) rfl ?_
    exact kK
  obtain ⟨cl3_, Ar3_, Sz3_, Nn3_, Hh3_⟩ := id Tt
  have hin3_ : ¬ (i1 < 0 ∨ cl3_.slots.size ≤ (i1).toNatClampNeg) := inb_of Sz3_ ⟨h1, h2⟩
  have hat3_ : cl3_.slots[(i1).toNatClampNeg]? = some (.int (f i1)) := Hh3_ _ hin3_
  refine jg T2_ mM 14 #[vR t, vI i1] [(.int (((f i1) &&& (255 : Int32)).toUInt32.toUInt16.toUInt32.toInt32))] (fun tT kK => ?_) ?_
  · refine X2_.baloadBytes hx (j := i1) (v := (.int (f i1))) (own_rw p2__0 Ar3_.1) (State.isArrayOf_alike hZ.alike Ar3_.2.1) Ar3_.2.2 hin3_ hat3_ (g := (mkF mM 8 #[vR t, vI i1] [(.int i1), (.ref t)])) rfl rfl (hC e5_6.2.2.1) _ ?_
    refine XS.sipush X2_.here hx rfl (hC e5_6.2.2.2) ?_
    refine XS.iand X2_.here hx rfl (hC e5_12.1) rfl ?_
    refine XS.i2c X2_.here hx rfl (hC e5_12.2.1) rfl ?_
    exact kK
  exact own_rN X2_ hx hlk hre (by simp) (hC e5_12.2.2) p2__0 (by decide) (by decide) ⟨by rw [own_chr], N2_, rfl⟩
theorem e3_0 : jD6 0 (.aload_n 0, 1) ∧ jD6 1 (.invokevirtual 492, 3) := by decide +kernel
theorem own_pd3 : parseMethodDescriptor "()Z" = some ⟨[], some .boolean⟩ := by decide +kernel
theorem e3_4 : jD6 4 (.ifCond .eq 12, 3) ∧ jD6 7 (.aload_n 0, 1) ∧ jD6 8 (.getfield 9, 3) ∧ jD6 11 (.iload_n 1, 1) := by decide +kernel
theorem d3_12 : jD6 12 (.invokestatic 495, 3) := by decide +kernel
theorem own_pd4 : parseMethodDescriptor "([BI)C" = some ⟨[(.array .byte), .int], some .char⟩ := by decide +kernel
theorem d3_15 : jD6 15 (.ireturn, 1) := by decide +kernel
theorem own_ef_rm_char (mM : MethodId) (x0 : Addr) (x1 : Int32) : entryFrame mM #[(.ref x0), (.int x1)] 2 = mkF mM 0 #[.val (.ref x0), .val (.int x1)] [] := by first | (simp [entryFrame, mkF, argsToLocals, Value.category]; done) | rfl
def Q_rm_char (Z : State) (a : Addr) (i1 : Int32) (t : Addr) (z : Int32) (f : Int32 → Int32) (cs : Int32) (fv : Value) (h0 : Heap) (n0 : Nat) (vV : Option Value) (hH : Heap) (lA : List Loc) : Prop := vV = some (.int (own_ch (f i1))) ∧ Fr n0 lA ∧ (hH = h0)
set_option maxRecDepth 65536 in
set_option maxHeartbeats 40000000 in
theorem rm_char (lL : Launch) (Z : State) (a0 : Array Value) (hw : own_H a0 Z) (ws : List Jvm.Cond) (a : Addr) (i1 : Int32) (t : Addr) (z : Int32) (f : Int32 → Int32) (cs : Int32) (fv : Value) (h0 : Heap) (n0 : Nat) (Z0 : n0 ≤ h0.size) (Oo : Old Z n0 h0) (Scs : Sta Z Z.heap "java/lang/String" "COMPACT_STRINGS" "Z" (.int cs)) (ncs : ¬ (cs = (0 : Int32))) (Sfv : Sta Z Z.heap "jdk/internal/util/Preconditions" "SIOOBE_FORMATTER" "Ljava/util/function/BiFunction;" fv) (rfv : fv.isRef = true) (Ea : jE0 Z h0 a) (Fv : jF1 Z h0 a (.ref t)) (Fc : jF0 Z h0 a (.int (0 : Int32))) (Tt : own_T Z h0 t .byte z f) (h1 : ¬ (i1 < (0 : Int32))) (h2 : i1 < z) :
    own_Met lL jy6 (Jvm.Cond.code jy6 jdk_42_method_56_code 2 (some .char) :: ws) jr4 #[(.ref a), (.int i1)] Z h0 (Q_rm_char Z a i1 t z f cs fv h0 n0) := by
  refine own_begin (plainFor_of_name own_pn_java_lang_String) (fun mM => own_ef_rm_char mM a i1) fun pP eE sS mM below meth cC s₁ hx hby hml hZ hown hnm hre hlk X0 e0 => ?_
  have hC := @Jvm.hb _ _ hby
  have N0 := Fr.nil n0
  have K0 := Keep.refl h0 ([] : List Addr)
  refine jg s₁ mM 1 #[vR a, vI i1] [(.ref a)] (fun tT kK => ?_) ?_
  · refine XS.aloadN X0.here hx rfl (hC e3_0.1) rfl rfl ?_
    exact kK
  refine jv X0 hx hZ (y := jy4) hown (jk hw 23 rfl) (jk hw 24 rfl) (jk hw 26 rfl) (jk hw 25 rfl) (jk hw 27 rfl) (jk hw 11 rfl) (rm_isl lL Z a0 hw [] a cs h0 n0 (Nat.le_trans Z0 K0.1) Oo Scs ncs Fc) Ea e0 own_pd3 [] [] (hC e3_0.2) rfl rfl (by rw [hml]; rfl) (by decide) 0 (Nat.le_of_eq rfl) (by decide) (by decide) (by decide : 0 + 0 ≤ _) (by decide : 0 + 0 ≤ _) fun vv1_ T1_ L1_ X1_ hQ1_ => ?_
  obtain ⟨rfl, N1_q, p1__0⟩ := hQ1_
  have N1_ := Fr.app N0 N1_q
  refine jg T1_ mM 8 #[vR a, vI i1] [(.ref a)] (fun tT kK => ?_) ?_
  · refine XS.ifNo X1_.here hx rfl (hC e3_4.1) rfl ((if0 _ _).trans (feq ((by decide) : ¬ ((1 : Int32) = (0 : Int32)))).1) ?_
    refine XS.aloadN X1_.here hx rfl (hC e3_4.2.1) rfl rfl ?_
    exact kK
  refine jf X1_ hx hZ hown (jk hw 30 rfl) p1__0 Fv (hC e3_4.2.2.1) fun T2_ X2_ e2_ => ?_
  refine jg T2_ mM 12 #[vR a, vI i1] [(.int i1), (.ref t)] (fun tT kK => ?_) ?_
  · refine XS.iloadN X2_.here hx rfl (hC e3_4.2.2.2) rfl ?_
    exact kK
  refine jc X2_ hx hZ (y := jy5) hown (jk hw 31 rfl) (jk hw 32 rfl) (jk hw 33 rfl) (jk hw 34 rfl) (rm_l1ch lL Z a0 hw [] t i1 z f fv h0 n0 (Nat.le_trans Z0 K0.1) Oo Sfv rfv Tt h1 h2) e2_ own_pd4 [(.ref t), (.int i1)] [] (hC d3_12) rfl rfl (by rw [hml]; rfl) (by decide) 0 (Nat.le_of_eq rfl) (by decide) (by decide) (by decide : 0 + 0 ≤ _) (by decide : 0 + 0 ≤ _) fun vv3_ T3_ L3_ X3_ hQ3_ => ?_
  obtain ⟨rfl, N3_q, p3__0⟩ := hQ3_
  have N3_ := Fr.app N1_ N3_q
  exact own_rN X3_ hx hlk hre (by simp) (hC d3_15) p3__0 (by decide) (by decide) ⟨by rw [own_nch (x := own_ch (f i1)) (own_chb (f i1)).1 (by have := (own_chb (f i1)).2; show (f i1 &&& (255 : Int32)).toInt ≤ 65535; omega)], N3_, rfl⟩
theorem e13_3 : jD7 3 (.iload 5, 2) ∧ jD7 5 (.iload 4, 2) ∧ jD7 7 (.if_icmp .ge 37, 3) ∧ jD7 10 (.aload_n 0, 1) := by decide +kernel
theorem e13_11 : jD7 11 (.iload_n 1, 1) ∧ jD7 12 (.caload, 1) ∧ jD7 13 (.istore 6, 2) := by decide +kernel
theorem own_os0 {z0 : Value} {z1 : Value} {z2 : Value} {z3 : Value} {z4 : Value} {z5 : Value} {s6 : Slot} {v : Int32} (h : One s6) : storeLocals #[.val z0, .val z1, .val z2, .val z3, .val z4, .val z5, s6] 6 (.int v) = some #[.val z0, .val z1, .val z2, .val z3, .val z4, .val z5, .val (.int v)] := by
  rcases h with rfl | ⟨w, rfl, hw⟩
  · first | rfl | (simp [Value.category, Value.isRef] at *; done)
  · cases w <;> first | rfl | (simp [Value.category, Value.isRef] at *; done)
theorem e13_15 : jD7 15 (.iload 6, 2) ∧ jD7 17 (.sipush 255, 3) ∧ jD7 20 (.if_icmp .le 6, 3) ∧ jD7 26 (.aload_n 2, 1) := by decide +kernel
theorem e13_27 : jD7 27 (.iload_n 3, 1) ∧ jD7 28 (.iload 6, 2) ∧ jD7 30 (.i2b, 1) ∧ jD7 31 (.bastore, 1) := by decide +kernel
theorem e13_32 : jD7 32 (.iinc 1 1, 3) ∧ jD7 35 (.iinc 3 1, 3) ∧ jD7 38 (.iinc 5 1, 3) ∧ jD7 41 (.goto (-38), 3) := by decide +kernel
set_option maxRecDepth 65536 in
set_option maxHeartbeats 40000000 in
theorem own_lpc {pP : Program} {lL : Launch} {eE : Env} {R : Room} {sS : State} {mM : MethodId} {args : Array Value} {below : List Frame} {meth : Method} {cC : Code} {cells slots : Nat} {PP : State → Outcome → Prop} (Z : State) (a0 : Array Value) (hw : own_H a0 Z) (a : Addr) (b : Addr) (z : Int32) (f : Int32 → Int32) (g0 : Int32 → Int32) (h0 : Heap) (n0 : Nat) (Z0 : n0 ≤ h0.size) (gb : n0 ≤ b) (nab : a ≠ b) (hp : ∀ j : Int32, ¬ j < 0 ∧ j < z → 0 ≤ (f j).toInt ∧ (f j).toInt ≤ 255) (hx : pP.tables.exec = Jvm.exec) (hZ : Z.Warmed39 sS.vm) (hby : cC.code = jdk_52_method_21_code) (hml : cC.maxLocals = 7) (hown : sS.vm.findClass "java/lang/StringUTF16" = some mM.cls)
    (kont0 : ∀ (s6 : Slot) (Th : State) (hh : Heap) (Lh : List Loc), Stand pP lL eE R sS mM args below meth cC Th Lh cells slots → Th.heap = hh → Fr n0 Lh → Keep h0 hh [b] → (own_T Z hh b .byte z (fun j => (f j).toInt8.toInt32)) → own_Fin pP eE below PP (Th.setTop (mkF mM 44 #[.val (.ref a), .val (.int (Int32.ofNat z.toNatClampNeg)), .val (.ref b), .val (.int (Int32.ofNat z.toNatClampNeg)), .val (.int z), .val (.int (Int32.ofNat z.toNatClampNeg)), s6] []))) :
    ∀ (k i : Nat) (g : Int32 → Int32) (s6 : Slot) (Th : State) (hh : Heap) (Lh : List Loc), i + k = z.toNatClampNeg → Stand pP lL eE R sS mM args below meth cC Th Lh cells slots → Th.heap = hh → Fr n0 Lh → Keep h0 hh [b] → (own_T Z hh a .char z f) → (own_T Z hh b .byte z g) → (∀ j : Int32, ¬ j < 0 → j.toNatClampNeg < i → g j = (fun j => (f j).toInt8.toInt32) j) → (One s6) → own_Fin pP eE below PP (Th.setTop (mkF mM 3 #[.val (.ref a), .val (.int (Int32.ofNat i)), .val (.ref b), .val (.int (Int32.ofNat i)), .val (.int z), .val (.int (Int32.ofNat i)), s6] [])) := by
  have hC := @Jvm.hb _ _ hby
  intro k
  induction k with
  | zero =>
      intro i g s6 Th hh Lh hik Xh eh Nh Kh Ti Tg Pg hs6
      have hz := Tg.nn
      obtain rfl : i = z.toNatClampNeg := by omega
      let ll1 : Array Slot := #[vR a, vI (Int32.ofNat z.toNatClampNeg), vR b, vI (Int32.ofNat z.toNatClampNeg), vI z, vI (Int32.ofNat z.toNatClampNeg), s6]
      refine jg Th mM 44 ll1 [] (fun tT kK => ?_) ?_
      · refine XS.iload Xh.here hx rfl (hC e13_3.1) rfl ?_
        refine XS.iload Xh.here hx rfl (hC e13_3.2.1) rfl ?_
        refine XS.icmpYes Xh.here hx rfl (pc0 := 7) (pc' := 44) rfl (hC e13_3.2.2.1) rfl (flt (own_nlt hz : ¬ ((Int32.ofNat z.toNatClampNeg) < z))).2.1 (by decide) (by decide) ?_
        exact kK
      exact kont0 _ _ _ _ Xh eh Nh Kh (Tg.congr fun j hj => Pg j hj.1 (own_jn hj.1 hz hj.2))
  | succ k ih =>
      intro i g s6 Th hh Lh hik Xh eh Nh Kh Ti Tg Pg hs6
      have hz := Tg.nn
      have hi : i < z.toNatClampNeg := by omega
      have hc := hp _ (own_inz hz hi)
      let ll2 : Array Slot := #[vR a, vI (Int32.ofNat i), vR b, vI (Int32.ofNat i), vI z, vI (Int32.ofNat i), s6]
      refine jg Th mM 12 ll2 [(.int (Int32.ofNat i)), (.ref a)] (fun tT kK => ?_) ?_
      · refine XS.iload Xh.here hx rfl (hC e13_3.1) rfl ?_
        refine XS.iload Xh.here hx rfl (hC e13_3.2.1) rfl ?_
        refine XS.icmpNo Xh.here hx rfl (hC e13_3.2.2.1) rfl (tlt (own_ltz hz hi : (Int32.ofNat i) < z)).2.1 ?_
        refine XS.aloadN Xh.here hx rfl (hC e13_3.2.2.2) rfl rfl ?_
        refine XS.iloadN Xh.here hx rfl (hC e13_11.1) rfl ?_
        exact kK
      obtain ⟨cl1_, Ar1_, Sz1_, Nn1_, Hh1_⟩ := id Ti
      have hin1_ : ¬ ((Int32.ofNat i) < 0 ∨ cl1_.slots.size ≤ ((Int32.ofNat i)).toNatClampNeg) := inb_of Sz1_ (own_inz hz hi)
      have hat1_ : cl1_.slots[((Int32.ofNat i)).toNatClampNeg]? = some (.int (f (Int32.ofNat i))) := Hh1_ _ hin1_
      let ll3 : Array Slot := #[vR a, vI (Int32.ofNat i), vR b, vI (Int32.ofNat i), vI z, vI (Int32.ofNat i), vI (f (Int32.ofNat i))]
      refine jg Th mM 31 ll3 [(.int ((f (Int32.ofNat i)).toInt8.toInt32)), (.int (Int32.ofNat i)), (.ref b)] (fun tT kK => ?_) ?_
      · refine Xh.caload hx (j := (Int32.ofNat i)) (v := (.int (f (Int32.ofNat i)))) (own_rw eh Ar1_.1) (State.isArrayOf_alike hZ.alike Ar1_.2.1) Ar1_.2.2 hin1_ hat1_ (g := (mkF mM 12 ll2 [(.int (Int32.ofNat i)), (.ref a)])) rfl rfl (hC e13_11.2.1) _ ?_
        refine XS.istore Xh.here hx rfl (hC e13_11.2.2) rfl (l' := ll3) (own_os0 hs6) ?_
        refine XS.iload Xh.here hx rfl (hC e13_15.1) rfl ?_
        refine XS.sipush Xh.here hx rfl (hC e13_15.2.1) ?_
        refine XS.icmpYes Xh.here hx rfl (pc0 := 20) (pc' := 26) rfl (hC e13_15.2.2.1) rfl (flt (own_ltn hc.2 : ¬ ((255 : Int32) < (f (Int32.ofNat i))))).2.2.2 (by decide) (by decide) ?_
        refine XS.aloadN Xh.here hx rfl (hC e13_15.2.2.2) rfl rfl ?_
        refine XS.iloadN Xh.here hx rfl (hC e13_27.1) rfl ?_
        refine XS.iload Xh.here hx rfl (hC e13_27.2.1) rfl ?_
        refine XS.i2b Xh.here hx rfl (hC e13_27.2.2.1) rfl ?_
        exact kK
      obtain ⟨cl2_, Ar2_, Sz2_, Nn2_, Hh2_⟩ := id Tg
      have hin2_ : ¬ ((Int32.ofNat i) < 0 ∨ cl2_.slots.size ≤ ((Int32.ofNat i)).toNatClampNeg) := inb_of Sz2_ (own_inz hz hi)
      obtain ⟨T2_, h2_, X2_, e2_, W2_, st2_⟩ := stB Xh hx hZ eh Ar2_ (j := (Int32.ofNat i)) hin2_ (g := (mkF mM 31 ll3 [(.int ((f (Int32.ofNat i)).toInt8.toInt32)), (.int (Int32.ofNat i)), (.ref b)])) rfl rfl (hC e13_27.2.2.2)
      have U2_ : own_T Z h2_ b .byte z (own_up g (Int32.ofNat i) (nar .byte ((f (Int32.ofNat i)).toInt8.toInt32))) := own_T.set ⟨cl2_, Ar2_, Sz2_, Nn2_, Hh2_⟩ W2_ (own_inz hz hi)
      have fc3_ := Ti.other W2_ nab
      have K2_ := Kh.wr W2_ (Or.inl (List.mem_of_getElem? (i := 0) rfl))
      have N2_ := Fr.snoc X2_ Nh gb
      refine own_fin st2_ ?_
      let ll4 : Array Slot := #[vR a, vI ((Int32.ofNat i) + (1 : Int32)), vR b, vI ((Int32.ofNat i) + (1 : Int32)), vI z, vI ((Int32.ofNat i) + (1 : Int32)), vI (f (Int32.ofNat i))]
      refine jg T2_ mM 3 ll4 [] (fun tT kK => ?_) ?_
      · let ll5 : Array Slot := #[vR a, vI ((Int32.ofNat i) + (1 : Int32)), vR b, vI (Int32.ofNat i), vI z, vI (Int32.ofNat i), vI (f (Int32.ofNat i))]
        refine XS.iinc X2_.here hx rfl (hC e13_32.1) rfl (l' := ll5) rfl ?_
        let ll6 : Array Slot := #[vR a, vI ((Int32.ofNat i) + (1 : Int32)), vR b, vI ((Int32.ofNat i) + (1 : Int32)), vI z, vI (Int32.ofNat i), vI (f (Int32.ofNat i))]
        refine XS.iinc X2_.here hx rfl (hC e13_32.2.1) rfl (l' := ll6) rfl ?_
        refine XS.iinc X2_.here hx rfl (hC e13_32.2.2.1) rfl (l' := ll4) rfl ?_
        refine XS.goto X2_.here hx rfl (pc0 := 41) (pc' := 3) rfl (hC e13_32.2.2.2) (by decide) (by decide) ?_
        exact kK
      show own_Fin pP eE below _ (T2_.setTop (mkF mM 3 #[.val (.ref a), .val (.int ((Int32.ofNat i) + (1 : Int32))), .val (.ref b), .val (.int ((Int32.ofNat i) + (1 : Int32))), .val (.int z), .val (.int ((Int32.ofNat i) + (1 : Int32))), .val (.int (f (Int32.ofNat i)))] []))
      rw [own_one i]
      exact ih (i + 1) _ _ _ _ _ (by omega) X2_ e2_ N2_ K2_ fc3_ U2_ (own_upf hz hi Pg (own_i8 _)) (One.val rfl)
theorem e13_0 : jD7 0 (.iconst 0, 1) ∧ jD7 1 (.istore 5, 2) ∧ jD7 44 (.iload 4, 2) ∧ jD7 46 (.ireturn, 1) := by decide +kernel
theorem own_pn_java_lang_StringUTF16 : plainName "java/lang/StringUTF16" = true := by first | (simp [plainName, overriddenIn]; done) | decide +kernel
theorem own_ef_rm_cmp1 (mM : MethodId) (x0 : Addr) (x1 : Int32) (x2 : Addr) (x3 : Int32) (x4 : Int32) : entryFrame mM #[(.ref x0), (.int x1), (.ref x2), (.int x3), (.int x4)] 7 = mkF mM 0 #[.val (.ref x0), .val (.int x1), .val (.ref x2), .val (.int x3), .val (.int x4), .unset, .unset] [] := by first | (simp [entryFrame, mkF, argsToLocals, Value.category]; done) | rfl
def Q_rm_cmp1 (Z : State) (a : Addr) (b : Addr) (z : Int32) (f : Int32 → Int32) (g0 : Int32 → Int32) (h0 : Heap) (n0 : Nat) (vV : Option Value) (hH : Heap) (lA : List Loc) : Prop := vV = some (.int z) ∧ Fr n0 lA ∧ (Keep h0 hH [b]) ∧ (own_T Z hH b .byte z (fun j => (f j).toInt8.toInt32))
set_option maxRecDepth 65536 in
set_option maxHeartbeats 40000000 in
theorem rm_cmp1 (lL : Launch) (Z : State) (a0 : Array Value) (hw : own_H a0 Z) (ws : List Jvm.Cond) (a : Addr) (b : Addr) (z : Int32) (f : Int32 → Int32) (g0 : Int32 → Int32) (h0 : Heap) (n0 : Nat) (Z0 : n0 ≤ h0.size) (Ta : own_T Z h0 a .char z f) (Tb : own_T Z h0 b .byte z g0) (gb : n0 ≤ b) (nab : a ≠ b) (hp : ∀ j : Int32, ¬ j < 0 ∧ j < z → 0 ≤ (f j).toInt ∧ (f j).toInt ≤ 255) :
    own_Met lL jy7 (Jvm.Cond.code jy7 jdk_52_method_21_code 7 (some .int) :: ws) jr0 #[(.ref a), (.int (0 : Int32)), (.ref b), (.int (0 : Int32)), (.int z)] Z h0 (Q_rm_cmp1 Z a b z f g0 h0 n0) := by
  refine own_begin (plainFor_of_name own_pn_java_lang_StringUTF16) (fun mM => own_ef_rm_cmp1 mM a (0 : Int32) b (0 : Int32) z) fun pP eE sS mM below meth cC s₁ hx hby hml hZ hown hnm hre hlk X0 e0 => ?_
  have hC := @Jvm.hb _ _ hby
  have N0 := Fr.nil n0
  have K0 := Keep.refl h0 [b]
  let ll1 : Array Slot := #[vR a, vI 0, vR b, vI 0, vI z, vI 0, vU]
  refine jg s₁ mM 3 ll1 [] (fun tT kK => ?_) ?_
  · refine XS.iconst X0.here hx rfl (hC e13_0.1) ?_
    refine XS.istore X0.here hx rfl (hC e13_0.2.1) rfl (l' := ll1) rfl ?_
    exact kK
  refine own_lpc Z a0 hw a b z f g0 h0 n0 Z0 gb nab hp hx hZ hby hml hown ?_ z.toNatClampNeg 0 g0 _ _ _ _ (by omega) X0 e0 N0 K0 Ta Tb (fun j h1 h2 => absurd h2 (Nat.not_lt_zero _)) One.u
  intro s6_1_ T1_ h1_ L1_ X1_ e1_ N1_ K1_ p1__0
  let ll2 : Array Slot := #[vR a, vI (Int32.ofNat z.toNatClampNeg), vR b, vI (Int32.ofNat z.toNatClampNeg), vI z, vI (Int32.ofNat z.toNatClampNeg), s6_1_]
  refine jg T1_ mM 46 ll2 [(.int z)] (fun tT kK => ?_) ?_
  · refine XS.iload X1_.here hx rfl (hC e13_0.2.2.1) rfl ?_
    exact kK
  exact own_rr X1_ hx hlk hre rfl (Or.inl ⟨rfl, Or.inl rfl, _, rfl⟩) (hC e13_0.2.2.2) e1_ (by decide) (by decide) ⟨rfl, N1_, K1_, p1__0⟩
theorem e12_0 : jD8 0 (.iload_n 2, 1) ∧ jD8 1 (.newarray .byte, 2) ∧ jD8 3 (.astore_n 3, 1) ∧ jD8 4 (.aload_n 0, 1) := by decide +kernel
theorem e12_5 : jD8 5 (.iload_n 1, 1) ∧ jD8 6 (.aload_n 3, 1) ∧ jD8 7 (.iconst 0, 1) ∧ jD8 8 (.iload_n 2, 1) := by decide +kernel
theorem d12_9 : jD8 9 (.invokestatic 115, 3) := by decide +kernel
theorem own_pd5 : parseMethodDescriptor "([CI[BII)I" = some ⟨[(.array .char), .int, (.array .byte), .int, .int], some .int⟩ := by decide +kernel
theorem e12_12 : jD8 12 (.istore 4, 2) ∧ jD8 14 (.iload 4, 2) ∧ jD8 16 (.iload_n 2, 1) ∧ jD8 17 (.if_icmp .eq 40, 3) := by decide +kernel
theorem e12_57 : jD8 57 (.aload_n 3, 1) ∧ jD8 58 (.areturn, 1) := by decide +kernel
theorem own_ef_rm_cmp2 (mM : MethodId) (x0 : Addr) (x1 : Int32) (x2 : Int32) : entryFrame mM #[(.ref x0), (.int x1), (.int x2)] 6 = mkF mM 0 #[.val (.ref x0), .val (.int x1), .val (.int x2), .unset, .unset, .unset] [] := by first | (simp [entryFrame, mkF, argsToLocals, Value.category]; done) | rfl
def Q_rm_cmp2 (Z : State) (a : Addr) (z : Int32) (f : Int32 → Int32) (h0 : Heap) (n0 : Nat) (vV : Option Value) (hH : Heap) (lA : List Loc) : Prop := ∃ b : Addr, vV = some (.ref b) ∧ Fr n0 lA ∧ (Keep h0 hH []) ∧ (h0.size ≤ b) ∧ (own_T Z hH b .byte z (fun j => (f j).toInt8.toInt32))
set_option maxRecDepth 65536 in
set_option maxHeartbeats 40000000 in
theorem rm_cmp2 (lL : Launch) (Z : State) (a0 : Array Value) (hw : own_H a0 Z) (ws : List Jvm.Cond) (a : Addr) (z : Int32) (f : Int32 → Int32) (h0 : Heap) (n0 : Nat) (Z0 : n0 ≤ h0.size) (Ta : own_T Z h0 a .char z f) (hp : ∀ j : Int32, ¬ j < 0 ∧ j < z → 0 ≤ (f j).toInt ∧ (f j).toInt ≤ 255) (hcap : z.toNatClampNeg ≤ 2) :
    own_Met lL jy8 (Jvm.Cond.code jy8 jdk_52_method_16_code 6 (some (.array .byte)) :: ws) jr5 #[(.ref a), (.int (0 : Int32)), (.int z)] Z h0 (Q_rm_cmp2 Z a z f h0 n0) := by
  refine own_begin (plainFor_of_name own_pn_java_lang_StringUTF16) (fun mM => own_ef_rm_cmp2 mM a (0 : Int32) z) fun pP eE sS mM below meth cC s₁ hx hby hml hZ hown hnm hre hlk X0 e0 => ?_
  have hC := @Jvm.hb _ _ hby
  have N0 := Fr.nil n0
  have K0 := Keep.refl h0 ([] : List Addr)
  have hz := Ta.nn
  let ll1 : Array Slot := #[vR a, vI 0, vI z, vU, vU, vU]
  refine jg s₁ mM 1 ll1 [(.int z)] (fun tT kK => ?_) ?_
  · refine XS.iloadN X0.here hx rfl (hC e12_0.1) rfl ?_
    exact kK
  obtain ⟨T1_, h1_, k1_, X1_, e1_, E1_, A1_, st1_⟩ := newP X0 hx hZ (jk hw 13 rfl) e0 (g := (mkF mM 1 ll1 [(.int z)])) rfl (hC e12_0.2.1) rfl hz (cap := 2) hcap (by decide) (by decide) (by decide)
  obtain ⟨b1_, g1_⟩ : ∃ z, z = h0.size := ⟨_, rfl⟩
  rw [← g1_] at A1_ st1_
  have sz_b1_ : h0.size ≤ b1_ := Nat.le_trans K0.1 (Nat.le_of_eq g1_.symm)
  have ge_b1_ : n0 ≤ b1_ := Nat.le_trans Z0 sz_b1_
  have ne2_ : a ≠ b1_ := Nat.ne_of_lt (Nat.lt_of_lt_of_le Ta.lt (Nat.le_of_eq g1_.symm))
  have fc3_ := Ta.ext E1_
  have K1_ := K0.ext E1_
  refine own_fin st1_ ?_
  have Tb : own_T Z h1_ b1_ .byte z (fun _ => 0) := own_T.new A1_ hz rfl
  let ll2 : Array Slot := #[vR a, vI 0, vI z, vR b1_, vU, vU]
  refine jg T1_ mM 9 ll2 [(.int z), (.int (0 : Int32)), (.ref b1_), (.int (0 : Int32)), (.ref a)] (fun tT kK => ?_) ?_
  · refine XS.astoreN X1_.here hx rfl (hC e12_0.2.2.1) rfl rfl (l' := ll2) rfl ?_
    refine XS.aloadN X1_.here hx rfl (hC e12_0.2.2.2) rfl rfl ?_
    refine XS.iloadN X1_.here hx rfl (hC e12_5.1) rfl ?_
    refine XS.aloadN X1_.here hx rfl (hC e12_5.2.1) rfl rfl ?_
    refine XS.iconst X1_.here hx rfl (hC e12_5.2.2.1) ?_
    refine XS.iloadN X1_.here hx rfl (hC e12_5.2.2.2) rfl ?_
    exact kK
  refine jc X1_ hx hZ (y := jy7) hown (jk hw 62 rfl) (jk hw 63 rfl) (jk hw 60 rfl) (jk hw 64 rfl) (rm_cmp1 lL Z a0 hw [] a b1_ z f (fun _ => 0) h1_ n0 (Nat.le_trans Z0 K1_.1) fc3_ Tb ge_b1_ ne2_ hp) e1_ own_pd5 [(.ref a), (.int (0 : Int32)), (.ref b1_), (.int (0 : Int32)), (.int z)] [] (hC d12_9) rfl rfl (by rw [hml]; rfl) (by decide) 0 (Nat.le_of_eq rfl) (by decide) (by decide) (by decide : 1 + 0 ≤ _) (by decide : 2 + 0 ≤ _) fun vv4_ T4_ L4_ X4_ hQ4_ => ?_
  obtain ⟨rfl, N4_q, p4__0, p4__1⟩ := hQ4_
  have N4_ := Fr.app N0 N4_q
  have K4_ := K1_.trans p4__0 (allS (Or.inr sz_b1_) all0)
  let ll3 : Array Slot := #[vR a, vI 0, vI z, vR b1_, vI z, vU]
  refine jg T4_ mM 58 ll3 [(.ref b1_)] (fun tT kK => ?_) ?_
  · refine XS.istore X4_.here hx rfl (hC e12_12.1) rfl (l' := ll3) rfl ?_
    refine XS.iload X4_.here hx rfl (hC e12_12.2.1) rfl ?_
    refine XS.iloadN X4_.here hx rfl (hC e12_12.2.2.1) rfl ?_
    refine XS.icmpYes X4_.here hx rfl (pc0 := 17) (pc' := 57) rfl (hC e12_12.2.2.2) rfl (teq (rfl : z = z)).1 (by decide) (by decide) ?_
    refine XS.aloadN X4_.here hx rfl (hC e12_57.1) rfl rfl ?_
    exact kK
  exact own_rr X4_ hx hlk hre rfl (Or.inr (Or.inr (Or.inr (Or.inr ⟨rfl, rfl, rfl⟩)))) (hC e12_57.2) rfl (by decide) (by decide) ⟨b1_, rfl, N4_, K4_, sz_b1_, p4__1⟩
theorem e14_0 : jD9 0 (.iload_n 1, 1) ∧ jD9 1 (.aload_n 0, 1) ∧ jD9 2 (.arraylength, 1) ∧ jD9 3 (.isub, 1) := by decide +kernel
theorem e14_4 : jD9 4 (.bipush 31, 2) ∧ jD9 6 (.iushr, 1) ∧ jD9 7 (.i2b, 1) ∧ jD9 8 (.ireturn, 1) := by decide +kernel
theorem own_ef_rm_cfa (mM : MethodId) (x0 : Addr) (x1 : Int32) : entryFrame mM #[(.ref x0), (.int x1)] 2 = mkF mM 0 #[.val (.ref x0), .val (.int x1)] [] := by first | (simp [entryFrame, mkF, argsToLocals, Value.category]; done) | rfl
def Q_rm_cfa (Z : State) (a : Addr) (z : Int32) (f : Int32 → Int32) (h0 : Heap) (n0 : Nat) (vV : Option Value) (hH : Heap) (lA : List Loc) : Prop := vV = some (.int (0 : Int32)) ∧ Fr n0 lA ∧ (hH = h0)
set_option maxRecDepth 65536 in
set_option maxHeartbeats 40000000 in
theorem rm_cfa (lL : Launch) (Z : State) (a0 : Array Value) (hw : own_H a0 Z) (ws : List Jvm.Cond) (a : Addr) (z : Int32) (f : Int32 → Int32) (h0 : Heap) (n0 : Nat) (Z0 : n0 ≤ h0.size) (Ta : own_T Z h0 a .byte z f) :
    own_Met lL jy9 (Jvm.Cond.code jy9 jdk_52_method_15_code 2 (some .byte) :: ws) jr0 #[(.ref a), (.int z)] Z h0 (Q_rm_cfa Z a z f h0 n0) := by
  refine own_begin (plainFor_of_name own_pn_java_lang_StringUTF16) (fun mM => own_ef_rm_cfa mM a z) fun pP eE sS mM below meth cC s₁ hx hby hml hZ hown hnm hre hlk X0 e0 => ?_
  have hC := @Jvm.hb _ _ hby
  have N0 := Fr.nil n0
  have K0 := Keep.refl h0 ([] : List Addr)
  refine jg s₁ mM 2 #[vR a, vI z] [(.ref a), (.int z)] (fun tT kK => ?_) ?_
  · refine XS.iloadN X0.here hx rfl (hC e14_0.1) rfl ?_
    refine XS.aloadN X0.here hx rfl (hC e14_0.2.1) rfl rfl ?_
    exact kK
  obtain ⟨cl1_, Ar1_, Sz1_, Nn1_, -⟩ := id Ta
  refine jg s₁ mM 8 #[vR a, vI z] [(.int ((((z - z).toUInt32 >>> ((31 : Int32) &&& 31).toUInt32).toInt32).toInt8.toInt32))] (fun tT kK => ?_) ?_
  · refine X0.arraylength hx (own_rw e0 Ar1_.1) (State.isArrayOf_alike hZ.alike Ar1_.2.1) (g := (mkF mM 2 #[vR a, vI z] [(.ref a), (.int z)])) rfl rfl (hC e14_0.2.2.1) _ ?_
    rw [len_of Sz1_ Nn1_]
    refine XS.isub X0.here hx rfl (hC e14_0.2.2.2) rfl ?_
    refine XS.bipush X0.here hx rfl (hC e14_4.1) ?_
    refine XS.iushr X0.here hx rfl (hC e14_4.2.1) rfl ?_
    refine XS.i2b X0.here hx rfl (hC e14_4.2.2.1) rfl ?_
    exact kK
  exact own_rN X0 hx hlk hre (by simp) (hC e14_4.2.2.2) e0 (by decide) (by decide) ⟨by rw [own_cfa]; rfl, N0, rfl⟩
theorem e10_0 : jD10 0 (.aload_n 0, 1) ∧ jD10 1 (.invokespecial 1, 3) ∧ jD10 4 (.iload_n 3, 1) ∧ jD10 5 (.ifCond .ne 22, 3) := by decide +kernel
theorem e10_27 : jD10 27 (.getstatic 38, 3) ∧ jD10 30 (.ifCond .eq 28, 3) ∧ jD10 33 (.aload_n 1, 1) ∧ jD10 34 (.iload_n 2, 1) := by decide +kernel
theorem e10_35 : jD10 35 (.iload_n 3, 1) ∧ jD10 36 (.invokestatic 177, 3) := by decide +kernel
theorem own_pd6 : parseMethodDescriptor "([CII)[B" = some ⟨[(.array .char), .int, .int], some (.array .byte)⟩ := by decide +kernel
theorem e10_39 : jD10 39 (.astore 5, 2) ∧ jD10 41 (.aload_n 0, 1) ∧ jD10 42 (.aload 5, 2) ∧ jD10 44 (.iload_n 3, 1) := by decide +kernel
theorem d10_45 : jD10 45 (.invokestatic 47, 3) := by decide +kernel
theorem own_pd7 : parseMethodDescriptor "([BI)B" = some ⟨[(.array .byte), .int], some .byte⟩ := by decide +kernel
theorem d10_48 : jD10 48 (.putfield 15, 3) := by decide +kernel
theorem js0 {Z : State} {a0 : Array Value} (hw : own_H a0 Z) : jQ0 Z ≠ jQ1 Z := slot_ne (Or.inr (jk hw 14 rfl)) (Or.inr (jk hw 15 rfl)) (by decide) (t := (.array .byte)) (t' := .byte) (by decide) (by decide)
theorem e10_51 : jD10 51 (.aload_n 0, 1) ∧ jD10 52 (.aload 5, 2) ∧ jD10 54 (.putfield 9, 3) ∧ jD10 57 (.return_, 1) := by decide +kernel
theorem own_ef_rm_str4 (mM : MethodId) (x0 : Addr) (x1 : Addr) (x2 : Int32) (x3 : Int32) : entryFrame mM #[(.ref x0), (.ref x1), (.int x2), (.int x3), .null] 6 = mkF mM 0 #[.val (.ref x0), .val (.ref x1), .val (.int x2), .val (.int x3), .val .null, .unset] [] := by first | (simp [entryFrame, mkF, argsToLocals, Value.category]; done) | rfl
def Q_rm_str4 (Z : State) (a : Addr) (c : Addr) (z : Int32) (f : Int32 → Int32) (cs : Int32) (h0 : Heap) (n0 : Nat) (vV : Option Value) (hH : Heap) (lA : List Loc) : Prop := ∃ b : Addr, vV = none ∧ Fr n0 lA ∧ (Keep h0 hH [a]) ∧ (h0.size ≤ b) ∧ (jE0 Z hH a) ∧ (jF1 Z hH a (.ref b)) ∧ (jF0 Z hH a (.int (0 : Int32))) ∧ (own_T Z hH b .byte z (fun j => (f j).toInt8.toInt32))
set_option maxRecDepth 65536 in
set_option maxHeartbeats 40000000 in
theorem rm_str4 (lL : Launch) (Z : State) (a0 : Array Value) (hw : own_H a0 Z) (ws : List Jvm.Cond) (a : Addr) (c : Addr) (z : Int32) (f : Int32 → Int32) (cs : Int32) (h0 : Heap) (n0 : Nat) (Z0 : n0 ≤ h0.size) (Oo : Old Z n0 h0) (Scs : Sta Z Z.heap "java/lang/String" "COMPACT_STRINGS" "Z" (.int cs)) (ncs : ¬ (cs = (0 : Int32))) (Ea : jE0 Z h0 a) (Fv : jF1 Z h0 a .null) (Fc : jF0 Z h0 a (.int (0 : Int32))) (ga : n0 ≤ a) (Tc : own_T Z h0 c .char z f) (hp : ∀ j : Int32, ¬ j < 0 ∧ j < z → 0 ≤ (f j).toInt ∧ (f j).toInt ≤ 255) (hcap : z.toNatClampNeg ≤ 2) (hnz : ¬ (z = (0 : Int32))) (nca : c ≠ a) :
    own_Met lL jy10 (Jvm.Cond.code jy10 jdk_42_method_149_code 6 none :: ws) jr6 #[(.ref a), (.ref c), (.int (0 : Int32)), (.int z), .null] Z h0 (Q_rm_str4 Z a c z f cs h0 n0) := by
  refine own_begin (plainFor_of_name own_pn_java_lang_String) (fun mM => own_ef_rm_str4 mM a c (0 : Int32) z) fun pP eE sS mM below meth cC s₁ hx hby hml hZ hown hnm hre hlk X0 e0 => ?_
  have hC := @Jvm.hb _ _ hby
  have N0 := Fr.nil n0
  have K0 := Keep.refl h0 [a]
  let ll1 : Array Slot := #[vR a, vR c, vI 0, vI z, vN, vU]
  refine jg s₁ mM 1 ll1 [(.ref a)] (fun tT kK => ?_) ?_
  · refine XS.aloadN X0.here hx rfl (hC e10_0.1) rfl rfl ?_
    exact kK
  obtain ⟨T1_, X1_, e1_, st1_⟩ := initO X0 hx hZ hown (jk hw 55 rfl) (jk hw 56 rfl) (jk hw 57 rfl) e0 (g := (mkF mM 1 ll1 [(.ref a)])) rfl (by rw [hml]; rfl) rfl (hC e10_0.2.1) (by decide) (W := 0) (by show 2 * 0 + _ ≤ _; exact Nat.le_of_eq rfl) (by decide)
  refine own_fin st1_ ?_
  refine jg T1_ mM 27 ll1 [] (fun tT kK => ?_) ?_
  · refine XS.iloadN X1_.here hx rfl (hC e10_0.2.2.1) rfl ?_
    refine XS.ifYes X1_.here hx rfl (pc0 := 5) (pc' := 27) rfl (hC e10_0.2.2.2) rfl ((if0 _ _).trans (feq (hnz : ¬ (z = (0 : Int32)))).2) (by decide) (by decide) ?_
    exact kK
  obtain ⟨T2_, X2_, e2_, st2_⟩ := getS2 X1_ hx hZ hown (host := "") (Or.inl (jk hw 28 rfl)) Via.refl e1_ (own_StaKeep Oo Scs) (g := (mkF mM 27 ll1 [])) rfl (hC e10_27.1)
  refine own_fin st2_ ?_
  refine jg T2_ mM 36 ll1 [(.int z), (.int (0 : Int32)), (.ref c)] (fun tT kK => ?_) ?_
  · refine XS.ifNo X2_.here hx rfl (hC e10_27.2.1) rfl ((if0 _ _).trans (feq (ncs : ¬ (cs = (0 : Int32)))).1) ?_
    refine XS.aloadN X2_.here hx rfl (hC e10_27.2.2.1) rfl rfl ?_
    refine XS.iloadN X2_.here hx rfl (hC e10_27.2.2.2) rfl ?_
    refine XS.iloadN X2_.here hx rfl (hC e10_35.1) rfl ?_
    exact kK
  refine jc X2_ hx hZ (y := jy8) hown (jk hw 58 rfl) (jk hw 59 rfl) (jk hw 60 rfl) (jk hw 61 rfl) (rm_cmp2 lL Z a0 hw [] c z f h0 n0 (Nat.le_trans Z0 K0.1) Tc hp hcap) e2_ own_pd6 [(.ref c), (.int (0 : Int32)), (.int z)] [] (hC e10_35.2) rfl rfl (by rw [hml]; rfl) (by decide) 0 (Nat.le_of_eq rfl) (by decide) (by decide) (by decide : 0 + 1 ≤ _) (by decide : 0 + 2 ≤ _) fun vv3_ T3_ L3_ X3_ hQ3_ => ?_
  obtain ⟨b_3_, rfl, N3_q, p3__0, p3__1, p3__2⟩ := hQ3_
  have N3_ := Fr.app N0 N3_q
  have sz_b_3_ : h0.size ≤ b_3_ := Nat.le_trans K0.1 p3__1
  have ne4_ : a ≠ b_3_ := Nat.ne_of_lt (Nat.lt_of_lt_of_le Ea.lt p3__1)
  have fc7_ := Ea.keep p3__0
  have fc8_ := Fv.keep p3__0 nin0
  have fc9_ := Fc.keep p3__0 nin0
  have K3_ := K0.trans p3__0 all0
  let ll2 : Array Slot := #[vR a, vR c, vI 0, vI z, vN, vR b_3_]
  refine jg T3_ mM 45 ll2 [(.int z), (.ref b_3_), (.ref a)] (fun tT kK => ?_) ?_
  · refine XS.astore X3_.here hx rfl (hC e10_39.1) rfl rfl (l' := ll2) rfl ?_
    refine XS.aloadN X3_.here hx rfl (hC e10_39.2.1) rfl rfl ?_
    refine XS.aload X3_.here hx rfl (hC e10_39.2.2.1) rfl rfl ?_
    refine XS.iloadN X3_.here hx rfl (hC e10_39.2.2.2) rfl ?_
    exact kK
  refine jc X3_ hx hZ (y := jy9) hown (jk hw 65 rfl) (jk hw 66 rfl) (jk hw 60 rfl) (jk hw 67 rfl) (rm_cfa lL Z a0 hw [] b_3_ z (fun j => (f j).toInt8.toInt32) T3_.heap n0 (Nat.le_trans Z0 K3_.1) p3__2) rfl own_pd7 [(.ref b_3_), (.int z)] [(.ref a)] (hC d10_45) rfl rfl (by rw [hml]; rfl) (by decide) 1 (Nat.le_of_eq rfl) (by decide) (by decide) (by decide : 1 + 0 ≤ _) (by decide : 2 + 0 ≤ _) fun vv11_ T11_ L11_ X11_ hQ11_ => ?_
  obtain ⟨rfl, N11_q, p11__0⟩ := hQ11_
  have N11_ := Fr.app N3_ N11_q
  obtain ⟨T12_, h12_, X12_, e12_, W12_, st12_⟩ := putFN X11_ hx hZ hown (jk hw 29 rfl) Via.refl p11__0 fc9_ fc7_ (Or.inr ⟨(jk hw 15 rfl), rfl, hnm⟩) (jk hw 12 rfl) (ty := .byte) (v' := (.int (0 : Int32))) (by decide) rfl (by first | exact fits_nar_byte _ | rfl) (g := (mkF mM 48 ll2 [(.int (0 : Int32)), (.ref a)])) rfl rfl (hC d10_48)
  have Fw12_ := fc9_.same W12_
  have fc14_ := fc7_.wr W12_
  have fc15_ := fc8_.other W12_ (Or.inr (js0 hw))
  have fc17_ := p3__2.other W12_ (Ne.symm ne4_)
  have K12_ := K3_.wr W12_ (Or.inl (List.mem_of_getElem? (i := 0) rfl))
  have N12_ := Fr.snoc X12_ N11_ ga
  refine own_fin st12_ ?_
  refine jg T12_ mM 54 ll2 [(.ref b_3_), (.ref a)] (fun tT kK => ?_) ?_
  · refine XS.aloadN X12_.here hx rfl (hC e10_51.1) rfl rfl ?_
    refine XS.aload X12_.here hx rfl (hC e10_51.2.1) rfl rfl ?_
    exact kK
  obtain ⟨T18_, h18_, X18_, e18_, W18_, st18_⟩ := putF X12_ hx hZ hown (host := "") (Or.inl (jk hw 30 rfl)) Via.refl e12_ fc15_ fc14_ (Or.inr ⟨(jk hw 14 rfl), rfl, hnm⟩) (jk hw 12 rfl) (ty := (.array .byte)) (by decide) rfl rfl (g := (mkF mM 54 ll2 [(.ref b_3_), (.ref a)])) rfl rfl (hC e10_51.2.2.1)
  have Fw18_ := fc15_.same W18_
  have fc20_ := fc14_.wr W18_
  have fc21_ := Fw12_.other W18_ (Or.inr (js0 hw).symm)
  have fc23_ := fc17_.other W18_ (Ne.symm ne4_)
  have K18_ := K12_.wr W18_ (Or.inl (List.mem_of_getElem? (i := 0) rfl))
  have N18_ := Fr.snoc X18_ N12_ ga
  refine own_fin st18_ ?_
  exact own_rV X18_ hx hlk hre (hC e10_51.2.2.2) e18_ (by decide) (by decide) ⟨b_3_, rfl, N18_, K18_, sz_b_3_, fc20_, Fw18_, fc21_, fc23_⟩
theorem e9_0 : jD11 0 (.aload_n 0, 1) ∧ jD11 1 (.aload_n 1, 1) ∧ jD11 2 (.iconst 0, 1) ∧ jD11 3 (.aload_n 1, 1) := by decide +kernel
theorem e9_4 : jD11 4 (.arraylength, 1) ∧ jD11 5 (.aconst_null, 1) ∧ jD11 6 (.invokespecial 27, 3) := by decide +kernel
theorem own_pd8 : parseMethodDescriptor "([CIILjava/lang/Void;)V" = some ⟨[(.array .char), .int, .int, (.object "java/lang/Void")], none⟩ := by decide +kernel
theorem d9_9 : jD11 9 (.return_, 1) := by decide +kernel
theorem own_ef_rm_str (mM : MethodId) (x0 : Addr) (x1 : Addr) : entryFrame mM #[(.ref x0), (.ref x1)] 2 = mkF mM 0 #[.val (.ref x0), .val (.ref x1)] [] := by first | (simp [entryFrame, mkF, argsToLocals, Value.category]; done) | rfl
def Q_rm_str (Z : State) (a : Addr) (c : Addr) (z : Int32) (f : Int32 → Int32) (cs : Int32) (h0 : Heap) (n0 : Nat) (vV : Option Value) (hH : Heap) (lA : List Loc) : Prop := ∃ b : Addr, vV = none ∧ Fr n0 lA ∧ (Keep h0 hH [a]) ∧ (h0.size ≤ b) ∧ (jE0 Z hH a) ∧ (jF1 Z hH a (.ref b)) ∧ (jF0 Z hH a (.int (0 : Int32))) ∧ (own_T Z hH b .byte z (fun j => (f j).toInt8.toInt32))
set_option maxRecDepth 65536 in
set_option maxHeartbeats 40000000 in
theorem rm_str (lL : Launch) (Z : State) (a0 : Array Value) (hw : own_H a0 Z) (ws : List Jvm.Cond) (a : Addr) (c : Addr) (z : Int32) (f : Int32 → Int32) (cs : Int32) (h0 : Heap) (n0 : Nat) (Z0 : n0 ≤ h0.size) (Oo : Old Z n0 h0) (Scs : Sta Z Z.heap "java/lang/String" "COMPACT_STRINGS" "Z" (.int cs)) (ncs : ¬ (cs = (0 : Int32))) (Ea : jE0 Z h0 a) (Fv : jF1 Z h0 a .null) (Fc : jF0 Z h0 a (.int (0 : Int32))) (ga : n0 ≤ a) (Tc : own_T Z h0 c .char z f) (hp : ∀ j : Int32, ¬ j < 0 ∧ j < z → 0 ≤ (f j).toInt ∧ (f j).toInt ≤ 255) (hcap : z.toNatClampNeg ≤ 2) (hnz : ¬ (z = (0 : Int32))) (nca : c ≠ a) :
    own_Met lL jy11 (Jvm.Cond.code jy11 jdk_42_method_3_code 2 none :: ws) jr7 #[(.ref a), (.ref c)] Z h0 (Q_rm_str Z a c z f cs h0 n0) := by
  refine own_begin (plainFor_of_name own_pn_java_lang_String) (fun mM => own_ef_rm_str mM a c) fun pP eE sS mM below meth cC s₁ hx hby hml hZ hown hnm hre hlk X0 e0 => ?_
  have hC := @Jvm.hb _ _ hby
  have N0 := Fr.nil n0
  have K0 := Keep.refl h0 [a]
  refine jg s₁ mM 4 #[vR a, vR c] [(.ref c), (.int (0 : Int32)), (.ref c), (.ref a)] (fun tT kK => ?_) ?_
  · refine XS.aloadN X0.here hx rfl (hC e9_0.1) rfl rfl ?_
    refine XS.aloadN X0.here hx rfl (hC e9_0.2.1) rfl rfl ?_
    refine XS.iconst X0.here hx rfl (hC e9_0.2.2.1) ?_
    refine XS.aloadN X0.here hx rfl (hC e9_0.2.2.2) rfl rfl ?_
    exact kK
  obtain ⟨cl1_, Ar1_, Sz1_, Nn1_, -⟩ := id Tc
  refine jg s₁ mM 6 #[vR a, vR c] [.null, (.int z), (.int (0 : Int32)), (.ref c), (.ref a)] (fun tT kK => ?_) ?_
  · refine X0.arraylength hx (own_rw e0 Ar1_.1) (State.isArrayOf_alike hZ.alike Ar1_.2.1) (g := (mkF mM 4 #[vR a, vR c] [(.ref c), (.int (0 : Int32)), (.ref c), (.ref a)])) rfl rfl (hC e9_4.1) _ ?_
    rw [len_of Sz1_ Nn1_]
    refine XS.aconstNull X0.here hx rfl (hC e9_4.2.1) ?_
    exact kK
  refine own_sb X0 hx hZ (y := jy10) rfl hown (jk hw 51 rfl) (jk hw 52 rfl) (jk hw 54 rfl) (jk hw 11 rfl) (rm_str4 lL Z a0 hw [] a c z f cs h0 n0 (Nat.le_trans Z0 K0.1) Oo Scs ncs Ea Fv Fc ga Tc hp hcap hnz nca) (a := a) e0 own_pd8 [(.ref c), (.int (0 : Int32)), (.int z), .null] [] (hC e9_4.2.2) rfl rfl (by rw [hml]; rfl) (by decide) 0 (Nat.le_of_eq rfl) (by decide) (by decide) (by decide : 0 + 1 ≤ _) (by decide : 0 + 2 ≤ _) fun vv2_ T2_ L2_ X2_ hQ2_ => ?_
  obtain ⟨b_2_, rfl, N2_q, p2__0, p2__1, p2__2, p2__3, p2__4, p2__5⟩ := hQ2_
  have N2_ := Fr.app N0 N2_q
  have sz_b_2_ : h0.size ≤ b_2_ := Nat.le_trans K0.1 p2__1
  have K2_ := K0.trans p2__0 (allS (Or.inl (List.mem_of_getElem? (i := 0) rfl)) all0)
  exact own_rV X2_ hx hlk hre (hC d9_9) rfl (by decide) (by decide) ⟨b_2_, rfl, N2_, K2_, sz_b_2_, p2__2, p2__3, p2__4, p2__5⟩
def own_fd (f : Int32 → Int32) (b : Int32) : Nat → Nat → Int32
  | 0, _ => -1
  | k + 1, i => if f (Int32.ofNat i) = b then Int32.ofNat i else own_fd f b k (i + 1)
theorem own_fdy {f : Int32 → Int32} {b r : Int32} {k i : Nat} (h : own_fd f b (k + 1) i = r) (e : f (Int32.ofNat i) = b) : r = Int32.ofNat i := by rw [← h]; exact if_pos e
theorem own_fdn {f : Int32 → Int32} {b r : Int32} {k i : Nat} (h : own_fd f b (k + 1) i = r) (e : ¬ f (Int32.ofNat i) = b) : own_fd f b k (i + 1) = r := by rw [← h]; exact (if_neg e).symm
theorem own_zpos {z : Int32} (h : ¬ z < 0) (n : ¬ (z = (0 : Int32))) : (0 : Int32) < z := by
  rw [Int32.lt_iff_toInt_lt] at *
  have : z.toInt ≠ (0 : Int32).toInt := fun q => n (Int32.toInt_inj.mp q)
  omega
theorem own_zn {z : Int32} (h : ¬ z < 0) (n : ¬ ((0 : Int32) < z)) : z.toNatClampNeg = 0 := by
  rw [Int32.lt_iff_toInt_lt] at *
  have := nat_of (show ¬ z < 0 by rw [Int32.lt_iff_toInt_lt]; exact h)
  have e : (0 : Int32).toInt = 0 := rfl
  omega
theorem e28_0 : jD12 0 (.iload_n 0, 1) ∧ jD12 1 (.ifCond .lt 14, 3) ∧ jD12 4 (.iload_n 0, 1) ∧ jD12 5 (.sipush 255, 3) := by decide +kernel
theorem e28_8 : jD12 8 (.if_icmp .gt 7, 3) ∧ jD12 11 (.iconst 1, 1) ∧ jD12 12 (.goto 4, 3) ∧ jD12 16 (.ireturn, 1) := by decide +kernel
theorem own_ef_rm_can (mM : MethodId) (x0 : Int32) : entryFrame mM #[(.int x0)] 1 = mkF mM 0 #[.val (.int x0)] [] := by first | (simp [entryFrame, mkF, argsToLocals, Value.category]; done) | rfl
def Q_rm_can (Z : State) (p : Int32) (h0 : Heap) (n0 : Nat) (vV : Option Value) (hH : Heap) (lA : List Loc) : Prop := vV = some (.int (1 : Int32)) ∧ Fr n0 lA ∧ (hH = h0)
set_option maxRecDepth 65536 in
set_option maxHeartbeats 40000000 in
theorem rm_can (lL : Launch) (Z : State) (a0 : Array Value) (hw : own_H a0 Z) (ws : List Jvm.Cond) (p : Int32) (h0 : Heap) (n0 : Nat) (Z0 : n0 ≤ h0.size) (h1 : ¬ (p < (0 : Int32))) (h2 : ¬ ((255 : Int32) < p)) :
    own_Met lL jy12 (Jvm.Cond.code jy12 jdk_43_method_4_code 1 (some .boolean) :: ws) jr0 #[(.int p)] Z h0 (Q_rm_can Z p h0 n0) := by
  refine own_begin (plainFor_of_name own_pn_java_lang_StringLatin1) (fun mM => own_ef_rm_can mM p) fun pP eE sS mM below meth cC s₁ hx hby hml hZ hown hnm hre hlk X0 e0 => ?_
  have hC := @Jvm.hb _ _ hby
  have N0 := Fr.nil n0
  have K0 := Keep.refl h0 ([] : List Addr)
  refine jg s₁ mM 16 #[vI p] [(.int (1 : Int32))] (fun tT kK => ?_) ?_
  · refine XS.iloadN X0.here hx rfl (hC e28_0.1) rfl ?_
    refine XS.ifNo X0.here hx rfl (hC e28_0.2.1) rfl ((if0 _ _).trans (flt (h1 : ¬ (p < (0 : Int32)))).1) ?_
    refine XS.iloadN X0.here hx rfl (hC e28_0.2.2.1) rfl ?_
    refine XS.sipush X0.here hx rfl (hC e28_0.2.2.2) ?_
    refine XS.icmpNo X0.here hx rfl (hC e28_8.1) rfl (flt (h2 : ¬ ((255 : Int32) < p))).2.2.1 ?_
    refine XS.iconst X0.here hx rfl (hC e28_8.2.1) ?_
    refine XS.goto X0.here hx rfl (pc0 := 12) (pc' := 16) rfl (hC e28_8.2.2.1) (by decide) (by decide) ?_
    exact kK
  exact own_rL X0 hx hlk hre (by simp) (hC e28_8.2.2.2) (w := (.int (1 : Int32))) rfl e0 (by decide) (by decide) ⟨rfl, N0, rfl⟩
theorem e29_0 : jD13 0 (.iload_n 0, 1) ∧ jD13 1 (.iload_n 1, 1) ∧ jD13 2 (.if_icmp .lt 7, 3) ∧ jD13 5 (.iload_n 0, 1) := by decide +kernel
theorem e29_6 : jD13 6 (.goto 4, 3) ∧ jD13 10 (.ireturn, 1) := by decide +kernel
theorem own_ef_rm_max0 (mM : MethodId) (x0 : Int32) (x1 : Int32) : entryFrame mM #[(.int x0), (.int x1)] 2 = mkF mM 0 #[.val (.int x0), .val (.int x1)] [] := by first | (simp [entryFrame, mkF, argsToLocals, Value.category]; done) | rfl
def Q_rm_max0 (Z : State)  (h0 : Heap) (n0 : Nat) (vV : Option Value) (hH : Heap) (lA : List Loc) : Prop := vV = some (.int (0 : Int32)) ∧ Fr n0 lA ∧ (hH = h0)
set_option maxRecDepth 65536 in
set_option maxHeartbeats 40000000 in
theorem rm_max0 (lL : Launch) (Z : State) (a0 : Array Value) (hw : own_H a0 Z) (ws : List Jvm.Cond)  (h0 : Heap) (n0 : Nat) (Z0 : n0 ≤ h0.size) :
    own_Met lL jy13 (Jvm.Cond.code jy13 jdk_29_method_65_code 2 (some .int) :: ws) jr0 #[(.int (0 : Int32)), (.int (0 : Int32))] Z h0 (Q_rm_max0 Z  h0 n0) := by
  refine own_begin (Jvm.Free.JP.mathPlain rfl (by decide +kernel)) (fun mM => own_ef_rm_max0 mM (0 : Int32) (0 : Int32)) fun pP eE sS mM below meth cC s₁ hx hby hml hZ hown hnm hre hlk X0 e0 => ?_
  have hC := @Jvm.hb _ _ hby
  have N0 := Fr.nil n0
  have K0 := Keep.refl h0 ([] : List Addr)
  let ll1 : Array Slot := #[vI 0, vI 0]
  refine jg s₁ mM 10 ll1 [(.int (0 : Int32))] (fun tT kK => ?_) ?_
  · refine XS.iloadN X0.here hx rfl (hC e29_0.1) rfl ?_
    refine XS.iloadN X0.here hx rfl (hC e29_0.2.1) rfl ?_
    refine XS.icmpNo X0.here hx rfl (hC e29_0.2.2.1) rfl (flt ((by decide) : ¬ ((0 : Int32) < (0 : Int32)))).1 ?_
    refine XS.iloadN X0.here hx rfl (hC e29_0.2.2.2) rfl ?_
    refine XS.goto X0.here hx rfl (pc0 := 6) (pc' := 10) rfl (hC e29_6.1) (by decide) (by decide) ?_
    exact kK
  exact own_rr X0 hx hlk hre rfl (Or.inl ⟨rfl, Or.inl rfl, _, rfl⟩) (hC e29_6.2) e0 (by decide) (by decide) ⟨rfl, N0, rfl⟩
theorem e30_0 : jD14 0 (.iload_n 0, 1) ∧ jD14 1 (.iload_n 1, 1) ∧ jD14 2 (.if_icmp .gt 7, 3) ∧ jD14 5 (.iload_n 0, 1) := by decide +kernel
theorem e30_6 : jD14 6 (.goto 4, 3) ∧ jD14 10 (.ireturn, 1) := by decide +kernel
theorem own_ef_rm_minz (mM : MethodId) (x0 : Int32) (x1 : Int32) : entryFrame mM #[(.int x0), (.int x1)] 2 = mkF mM 0 #[.val (.int x0), .val (.int x1)] [] := by first | (simp [entryFrame, mkF, argsToLocals, Value.category]; done) | rfl
def Q_rm_minz (Z : State) (z : Int32) (h0 : Heap) (n0 : Nat) (vV : Option Value) (hH : Heap) (lA : List Loc) : Prop := vV = some (.int z) ∧ Fr n0 lA ∧ (hH = h0)
set_option maxRecDepth 65536 in
set_option maxHeartbeats 40000000 in
theorem rm_minz (lL : Launch) (Z : State) (a0 : Array Value) (hw : own_H a0 Z) (ws : List Jvm.Cond) (z : Int32) (h0 : Heap) (n0 : Nat) (Z0 : n0 ≤ h0.size) :
    own_Met lL jy14 (Jvm.Cond.code jy14 jdk_29_method_69_code 2 (some .int) :: ws) jr0 #[(.int z), (.int z)] Z h0 (Q_rm_minz Z z h0 n0) := by
  refine own_begin (Jvm.Free.JP.mathPlain rfl (by decide +kernel)) (fun mM => own_ef_rm_minz mM z z) fun pP eE sS mM below meth cC s₁ hx hby hml hZ hown hnm hre hlk X0 e0 => ?_
  have hC := @Jvm.hb _ _ hby
  have N0 := Fr.nil n0
  have K0 := Keep.refl h0 ([] : List Addr)
  refine jg s₁ mM 10 #[vI z, vI z] [(.int z)] (fun tT kK => ?_) ?_
  · refine XS.iloadN X0.here hx rfl (hC e30_0.1) rfl ?_
    refine XS.iloadN X0.here hx rfl (hC e30_0.2.1) rfl ?_
    refine XS.icmpNo X0.here hx rfl (hC e30_0.2.2.1) rfl (flt (Int32.lt_irrefl (a := z) : ¬ (z < z))).2.2.1 ?_
    refine XS.iloadN X0.here hx rfl (hC e30_0.2.2.2) rfl ?_
    refine XS.goto X0.here hx rfl (pc0 := 6) (pc' := 10) rfl (hC e30_6.1) (by decide) (by decide) ?_
    exact kK
  exact own_rr X0 hx hlk hre rfl (Or.inl ⟨rfl, Or.inl rfl, _, rfl⟩) (hC e30_6.2) e0 (by decide) (by decide) ⟨rfl, N0, rfl⟩
theorem e41_7 : jD15 7 (.iload 5, 2) ∧ jD15 9 (.iload_n 3, 1) ∧ jD15 10 (.if_icmp .ge 21, 3) ∧ jD15 13 (.aload_n 0, 1) := by decide +kernel
theorem e41_14 : jD15 14 (.iload 5, 2) ∧ jD15 16 (.baload, 1) ∧ jD15 17 (.iload 4, 2) ∧ jD15 19 (.if_icmp .ne 6, 3) := by decide +kernel
theorem e41_25 : jD15 25 (.iinc 5 1, 3) ∧ jD15 28 (.goto (-21), 3) := by decide +kernel
set_option maxRecDepth 65536 in
set_option maxHeartbeats 40000000 in
theorem own_lpx {pP : Program} {lL : Launch} {eE : Env} {R : Room} {sS : State} {mM : MethodId} {args : Array Value} {below : List Frame} {meth : Method} {cC : Code} {cells slots : Nat} {PP : State → Outcome → Prop} (Z : State) (a0 : Array Value) (hw : own_H a0 Z) (t : Addr) (p : Int32) (z : Int32) (f : Int32 → Int32) (r : Int32) (h0 : Heap) (n0 : Nat) (Z0 : n0 ≤ h0.size) (Tt : own_T Z h0 t .byte z f) (hx : pP.tables.exec = Jvm.exec) (hZ : Z.Warmed39 sS.vm) (hby : cC.code = jdk_43_method_23_code) (hml : cC.maxLocals = 6) (hown : sS.vm.findClass "java/lang/StringLatin1" = some mM.cls)
    (kont0 : ∀ (Th : State) (hh : Heap) (Lh : List Loc), Stand pP lL eE R sS mM args below meth cC Th Lh cells slots → Th.heap = hh → Fr n0 Lh → Keep h0 hh ([] : List Addr) → (hh = h0) → (r = (-1 : Int32)) → own_Fin pP eE below PP (Th.setTop (mkF mM 31 #[.val (.ref t), .val (.int p), .val (.int (0 : Int32)), .val (.int z), .val (.int (p.toInt8.toInt32)), .val (.int (Int32.ofNat z.toNatClampNeg))] [])))
    (kont1 : ∀ (j : Nat) (Th : State) (hh : Heap) (Lh : List Loc), Stand pP lL eE R sS mM args below meth cC Th Lh cells slots → Th.heap = hh → Fr n0 Lh → Keep h0 hh ([] : List Addr) → (hh = h0) → (r = Int32.ofNat j) → own_Fin pP eE below PP (Th.setTop (mkF mM 22 #[.val (.ref t), .val (.int p), .val (.int (0 : Int32)), .val (.int z), .val (.int (p.toInt8.toInt32)), .val (.int (Int32.ofNat j))] []))) :
    ∀ (k i : Nat) (Th : State) (hh : Heap) (Lh : List Loc), i + k = z.toNatClampNeg → Stand pP lL eE R sS mM args below meth cC Th Lh cells slots → Th.heap = hh → Fr n0 Lh → Keep h0 hh ([] : List Addr) → (hh = h0) → (own_fd f (p.toInt8.toInt32) k i = r) → own_Fin pP eE below PP (Th.setTop (mkF mM 7 #[.val (.ref t), .val (.int p), .val (.int (0 : Int32)), .val (.int z), .val (.int (p.toInt8.toInt32)), .val (.int (Int32.ofNat i))] [])) := by
  have hC := @Jvm.hb _ _ hby
  intro k
  induction k with
  | zero =>
      intro i  Th hh Lh hik Xh eh Nh Kh Ph Pi
      rw [Ph] at eh Kh
      have hz := Tt.nn
      obtain rfl : i = z.toNatClampNeg := by omega
      let ll1 : Array Slot := #[vR t, vI p, vI 0, vI z, vI (p.toInt8.toInt32), vI (Int32.ofNat z.toNatClampNeg)]
      refine jg Th mM 31 ll1 [] (fun tT kK => ?_) ?_
      · refine XS.iload Xh.here hx rfl (hC e41_7.1) rfl ?_
        refine XS.iloadN Xh.here hx rfl (hC e41_7.2.1) rfl ?_
        refine XS.icmpYes Xh.here hx rfl (pc0 := 10) (pc' := 31) rfl (hC e41_7.2.2.1) rfl (flt (own_nlt hz : ¬ ((Int32.ofNat z.toNatClampNeg) < z))).2.1 (by decide) (by decide) ?_
        exact kK
      exact kont0  _ _ _ Xh eh Nh Kh rfl Pi.symm
  | succ k ih =>
      intro i  Th hh Lh hik Xh eh Nh Kh Ph Pi
      rw [Ph] at eh Kh
      have hz := Tt.nn
      have hi : i < z.toNatClampNeg := by omega
      let ll2 : Array Slot := #[vR t, vI p, vI 0, vI z, vI (p.toInt8.toInt32), vI (Int32.ofNat i)]
      refine jg Th mM 16 ll2 [(.int (Int32.ofNat i)), (.ref t)] (fun tT kK => ?_) ?_
      · refine XS.iload Xh.here hx rfl (hC e41_7.1) rfl ?_
        refine XS.iloadN Xh.here hx rfl (hC e41_7.2.1) rfl ?_
        refine XS.icmpNo Xh.here hx rfl (hC e41_7.2.2.1) rfl (tlt (own_ltz hz hi : (Int32.ofNat i) < z)).2.1 ?_
        refine XS.aloadN Xh.here hx rfl (hC e41_7.2.2.2) rfl rfl ?_
        refine XS.iload Xh.here hx rfl (hC e41_14.1) rfl ?_
        exact kK
      obtain ⟨cl1_, Ar1_, Sz1_, Nn1_, Hh1_⟩ := id Tt
      have hin1_ : ¬ ((Int32.ofNat i) < 0 ∨ cl1_.slots.size ≤ ((Int32.ofNat i)).toNatClampNeg) := inb_of Sz1_ (own_inz hz hi)
      have hat1_ : cl1_.slots[((Int32.ofNat i)).toNatClampNeg]? = some (.int (f (Int32.ofNat i))) := Hh1_ _ hin1_
      refine jg Th mM 19 ll2 [(.int (p.toInt8.toInt32)), (.int (f (Int32.ofNat i)))] (fun tT kK => ?_) ?_
      · refine Xh.baloadBytes hx (j := (Int32.ofNat i)) (v := (.int (f (Int32.ofNat i)))) (own_rw eh Ar1_.1) (State.isArrayOf_alike hZ.alike Ar1_.2.1) Ar1_.2.2 hin1_ hat1_ (g := (mkF mM 16 ll2 [(.int (Int32.ofNat i)), (.ref t)])) rfl rfl (hC e41_14.2.1) _ ?_
        refine XS.iload Xh.here hx rfl (hC e41_14.2.2.1) rfl ?_
        exact kK
      by_cases hc19_2_ : (f (Int32.ofNat i)) = (p.toInt8.toInt32)
      · refine jg Th mM 22 ll2 [] (fun tT kK => ?_) ?_
        · refine XS.icmpNo Xh.here hx rfl (hC e41_14.2.2.2) rfl (teq (hc19_2_ : (f (Int32.ofNat i)) = (p.toInt8.toInt32))).2 ?_
          exact kK
        exact kont1 i _ _ _ Xh eh Nh Kh rfl (own_fdy Pi hc19_2_)
      · let ll3 : Array Slot := #[vR t, vI p, vI 0, vI z, vI (p.toInt8.toInt32), vI ((Int32.ofNat i) + (1 : Int32))]
        refine jg Th mM 7 ll3 [] (fun tT kK => ?_) ?_
        · refine XS.icmpYes Xh.here hx rfl (pc0 := 19) (pc' := 25) rfl (hC e41_14.2.2.2) rfl (feq (hc19_2_ : ¬ ((f (Int32.ofNat i)) = (p.toInt8.toInt32)))).2 (by decide) (by decide) ?_
          refine XS.iinc Xh.here hx rfl (hC e41_25.1) rfl (l' := ll3) rfl ?_
          refine XS.goto Xh.here hx rfl (pc0 := 28) (pc' := 7) rfl (hC e41_25.2) (by decide) (by decide) ?_
          exact kK
        show own_Fin pP eE below _ (Th.setTop (mkF mM 7 #[.val (.ref t), .val (.int p), .val (.int (0 : Int32)), .val (.int z), .val (.int (p.toInt8.toInt32)), .val (.int ((Int32.ofNat i) + (1 : Int32)))] []))
        rw [own_one i]
        exact ih (i + 1)  _ _ _ (by omega) Xh eh Nh Kh rfl (own_fdn Pi hc19_2_)
theorem e41_0 : jD15 0 (.iload_n 1, 1) ∧ jD15 1 (.i2b, 1) ∧ jD15 2 (.istore 4, 2) ∧ jD15 4 (.iload_n 2, 1) := by decide +kernel
theorem e41_5 : jD15 5 (.istore 5, 2) ∧ jD15 31 (.iconst (-1), 1) ∧ jD15 32 (.ireturn, 1) ∧ jD15 22 (.iload 5, 2) := by decide +kernel
theorem d41_24 : jD15 24 (.ireturn, 1) := by decide +kernel
theorem own_ef_rm_ixc (mM : MethodId) (x0 : Addr) (x1 : Int32) (x2 : Int32) (x3 : Int32) : entryFrame mM #[(.ref x0), (.int x1), (.int x2), (.int x3)] 6 = mkF mM 0 #[.val (.ref x0), .val (.int x1), .val (.int x2), .val (.int x3), .unset, .unset] [] := by first | (simp [entryFrame, mkF, argsToLocals, Value.category]; done) | rfl
def Q_rm_ixc (Z : State) (t : Addr) (p : Int32) (z : Int32) (f : Int32 → Int32) (h0 : Heap) (n0 : Nat) (vV : Option Value) (hH : Heap) (lA : List Loc) : Prop := vV = some (.int (own_fd f (p.toInt8.toInt32) z.toNatClampNeg 0)) ∧ Fr n0 lA ∧ (hH = h0)
set_option maxRecDepth 65536 in
set_option maxHeartbeats 40000000 in
theorem rm_ixc (lL : Launch) (Z : State) (a0 : Array Value) (hw : own_H a0 Z) (ws : List Jvm.Cond) (t : Addr) (p : Int32) (z : Int32) (f : Int32 → Int32) (h0 : Heap) (n0 : Nat) (Z0 : n0 ≤ h0.size) (Tt : own_T Z h0 t .byte z f) :
    own_Met lL jy15 (Jvm.Cond.code jy15 jdk_43_method_23_code 6 (some .int) :: ws) jr0 #[(.ref t), (.int p), (.int (0 : Int32)), (.int z)] Z h0 (Q_rm_ixc Z t p z f h0 n0) := by
  refine own_begin (plainFor_of_name own_pn_java_lang_StringLatin1) (fun mM => own_ef_rm_ixc mM t p (0 : Int32) z) fun pP eE sS mM below meth cC s₁ hx hby hml hZ hown hnm hre hlk X0 e0 => ?_
  have hC := @Jvm.hb _ _ hby
  have N0 := Fr.nil n0
  have K0 := Keep.refl h0 ([] : List Addr)
  let ll1 : Array Slot := #[vR t, vI p, vI 0, vI z, vI (p.toInt8.toInt32), vI 0]
  refine jg s₁ mM 7 ll1 [] (fun tT kK => ?_) ?_
  · refine XS.iloadN X0.here hx rfl (hC e41_0.1) rfl ?_
    refine XS.i2b X0.here hx rfl (hC e41_0.2.1) rfl ?_
    let ll2 : Array Slot := #[vR t, vI p, vI 0, vI z, vI (p.toInt8.toInt32), vU]
    refine XS.istore X0.here hx rfl (hC e41_0.2.2.1) rfl (l' := ll2) rfl ?_
    refine XS.iloadN X0.here hx rfl (hC e41_0.2.2.2) rfl ?_
    refine XS.istore X0.here hx rfl (hC e41_5.1) rfl (l' := ll1) rfl ?_
    exact kK
  refine own_lpx Z a0 hw t p z f (own_fd f (p.toInt8.toInt32) z.toNatClampNeg 0) h0 n0 Z0 Tt hx hZ hby hml hown ?_ ?_ z.toNatClampNeg 0  _ _ _ (by omega) X0 e0 N0 K0 rfl rfl
  · intro  T1_ h1_ L1_ X1_ e1_ N1_ K1_ p1__0 p1__1
    let ll3 : Array Slot := #[vR t, vI p, vI 0, vI z, vI (p.toInt8.toInt32), vI (Int32.ofNat z.toNatClampNeg)]
    refine jg T1_ mM 32 ll3 [(.int (-1 : Int32))] (fun tT kK => ?_) ?_
    · refine XS.iconst X1_.here hx rfl (hC e41_5.2.1) ?_
      exact kK
    exact own_rr X1_ hx hlk hre rfl (Or.inl ⟨rfl, Or.inl rfl, _, rfl⟩) (hC e41_5.2.2.1) (e1_.trans p1__0) (by decide) (by decide) ⟨by rw [p1__1], N1_, rfl⟩
  · intro j_2_ T2_ h2_ L2_ X2_ e2_ N2_ K2_ p2__0 p2__1
    let ll4 : Array Slot := #[vR t, vI p, vI 0, vI z, vI (p.toInt8.toInt32), vI (Int32.ofNat j_2_)]
    refine jg T2_ mM 24 ll4 [(.int (Int32.ofNat j_2_))] (fun tT kK => ?_) ?_
    · refine XS.iload X2_.here hx rfl (hC e41_5.2.2.2) rfl ?_
      exact kK
    exact own_rr X2_ hx hlk hre rfl (Or.inl ⟨rfl, Or.inl rfl, _, rfl⟩) (hC d41_24) (e2_.trans p2__0) (by decide) (by decide) ⟨by rw [p2__1], N2_, rfl⟩
theorem e27_0 : jD16 0 (.iload_n 1, 1) ∧ jD16 1 (.invokestatic 88, 3) := by decide +kernel
theorem own_pd9 : parseMethodDescriptor "(I)Z" = some ⟨[.int], some .boolean⟩ := by decide +kernel
theorem e27_4 : jD16 4 (.ifCond .ne 5, 3) ∧ jD16 9 (.iload_n 2, 1) ∧ jD16 10 (.iconst 0, 1) ∧ jD16 11 (.invokestatic 92, 3) := by decide +kernel
theorem own_pd10 : parseMethodDescriptor "(II)I" = some ⟨[.int, .int], some .int⟩ := by decide +kernel
theorem e27_14 : jD16 14 (.istore_n 2, 1) ∧ jD16 15 (.iload_n 3, 1) ∧ jD16 16 (.aload_n 0, 1) ∧ jD16 17 (.arraylength, 1) := by decide +kernel
theorem e27_18 : jD16 18 (.invokestatic 38, 3) ∧ jD16 21 (.istore_n 3, 1) ∧ jD16 22 (.iload_n 2, 1) ∧ jD16 23 (.iload_n 3, 1) := by decide +kernel
theorem e27_24 : jD16 24 (.if_icmp .lt 5, 3) ∧ jD16 29 (.aload_n 0, 1) ∧ jD16 30 (.iload_n 1, 1) ∧ jD16 31 (.iload_n 2, 1) := by decide +kernel
theorem e27_32 : jD16 32 (.iload_n 3, 1) ∧ jD16 33 (.invokestatic 95, 3) := by decide +kernel
theorem own_pd11 : parseMethodDescriptor "([BIII)I" = some ⟨[(.array .byte), .int, .int, .int], some .int⟩ := by decide +kernel
theorem e27_36 : jD16 36 (.ireturn, 1) ∧ jD16 27 (.iconst (-1), 1) ∧ jD16 28 (.ireturn, 1) := by decide +kernel
theorem own_ef_rm_ixl (mM : MethodId) (x0 : Addr) (x1 : Int32) (x2 : Int32) (x3 : Int32) : entryFrame mM #[(.ref x0), (.int x1), (.int x2), (.int x3)] 4 = mkF mM 0 #[.val (.ref x0), .val (.int x1), .val (.int x2), .val (.int x3)] [] := by first | (simp [entryFrame, mkF, argsToLocals, Value.category]; done) | rfl
def Q_rm_ixl (Z : State) (t : Addr) (p : Int32) (z : Int32) (f : Int32 → Int32) (h0 : Heap) (n0 : Nat) (vV : Option Value) (hH : Heap) (lA : List Loc) : Prop := vV = some (.int (own_fd f (p.toInt8.toInt32) z.toNatClampNeg 0)) ∧ Fr n0 lA ∧ (hH = h0)
set_option maxRecDepth 65536 in
set_option maxHeartbeats 40000000 in
theorem rm_ixl (lL : Launch) (Z : State) (a0 : Array Value) (hw : own_H a0 Z) (ws : List Jvm.Cond) (t : Addr) (p : Int32) (z : Int32) (f : Int32 → Int32) (h0 : Heap) (n0 : Nat) (Z0 : n0 ≤ h0.size) (Tt : own_T Z h0 t .byte z f) (h1 : ¬ (p < (0 : Int32))) (h2 : ¬ ((255 : Int32) < p)) :
    own_Met lL jy16 (Jvm.Cond.code jy16 jdk_43_method_22_code 4 (some .int) :: ws) jr8 #[(.ref t), (.int p), (.int (0 : Int32)), (.int z)] Z h0 (Q_rm_ixl Z t p z f h0 n0) := by
  refine own_begin (plainFor_of_name own_pn_java_lang_StringLatin1) (fun mM => own_ef_rm_ixl mM t p (0 : Int32) z) fun pP eE sS mM below meth cC s₁ hx hby hml hZ hown hnm hre hlk X0 e0 => ?_
  have hC := @Jvm.hb _ _ hby
  have N0 := Fr.nil n0
  have K0 := Keep.refl h0 ([] : List Addr)
  have hz := Tt.nn
  let ll1 : Array Slot := #[vR t, vI p, vI 0, vI z]
  refine jg s₁ mM 1 ll1 [(.int p)] (fun tT kK => ?_) ?_
  · refine XS.iloadN X0.here hx rfl (hC e27_0.1) rfl ?_
    exact kK
  refine jc X0 hx hZ (y := jy12) hown (jk hw 123 rfl) (jk hw 124 rfl) (jk hw 33 rfl) (jk hw 125 rfl) (rm_can lL Z a0 hw [] p h0 n0 (Nat.le_trans Z0 K0.1) h1 h2) e0 own_pd9 [(.int p)] [] (hC e27_0.2) rfl rfl (by rw [hml]; rfl) (by decide) 0 (Nat.le_of_eq rfl) (by decide) (by decide) (by decide : 0 + 0 ≤ _) (by decide : 0 + 0 ≤ _) fun vv1_ T1_ L1_ X1_ hQ1_ => ?_
  obtain ⟨rfl, N1_q, p1__0⟩ := hQ1_
  have N1_ := Fr.app N0 N1_q
  refine jg T1_ mM 11 ll1 [(.int (0 : Int32)), (.int (0 : Int32))] (fun tT kK => ?_) ?_
  · refine XS.ifYes X1_.here hx rfl (pc0 := 4) (pc' := 9) rfl (hC e27_4.1) rfl ((if0 _ _).trans (feq ((by decide) : ¬ ((1 : Int32) = (0 : Int32)))).2) (by decide) (by decide) ?_
    refine XS.iloadN X1_.here hx rfl (hC e27_4.2.1) rfl ?_
    refine XS.iconst X1_.here hx rfl (hC e27_4.2.2.1) ?_
    exact kK
  refine jc X1_ hx hZ (y := jy13) hown (jk hw 126 rfl) (jk hw 127 rfl) (jk hw 128 rfl) (jk hw 129 rfl) (rm_max0 lL Z a0 hw []  h0 n0 (Nat.le_trans Z0 K0.1) ) p1__0 own_pd10 [(.int (0 : Int32)), (.int (0 : Int32))] [] (hC e27_4.2.2.2) rfl rfl (by rw [hml]; rfl) (by decide) 0 (Nat.le_of_eq rfl) (by decide) (by decide) (by decide : 0 + 0 ≤ _) (by decide : 0 + 0 ≤ _) fun vv2_ T2_ L2_ X2_ hQ2_ => ?_
  obtain ⟨rfl, N2_q, p2__0⟩ := hQ2_
  have N2_ := Fr.app N1_ N2_q
  refine jg T2_ mM 17 ll1 [(.ref t), (.int z)] (fun tT kK => ?_) ?_
  · refine XS.istoreN X2_.here hx rfl (hC e27_14.1) rfl (l' := ll1) rfl ?_
    refine XS.iloadN X2_.here hx rfl (hC e27_14.2.1) rfl ?_
    refine XS.aloadN X2_.here hx rfl (hC e27_14.2.2.1) rfl rfl ?_
    exact kK
  obtain ⟨cl3_, Ar3_, Sz3_, Nn3_, -⟩ := id Tt
  refine jg T2_ mM 18 ll1 [(.int z), (.int z)] (fun tT kK => ?_) ?_
  · refine X2_.arraylength hx (own_rw p2__0 Ar3_.1) (State.isArrayOf_alike hZ.alike Ar3_.2.1) (g := (mkF mM 17 ll1 [(.ref t), (.int z)])) rfl rfl (hC e27_14.2.2.2) _ ?_
    rw [len_of Sz3_ Nn3_]
    exact kK
  refine jc X2_ hx hZ (y := jy14) hown (jk hw 130 rfl) (jk hw 131 rfl) (jk hw 128 rfl) (jk hw 132 rfl) (rm_minz lL Z a0 hw [] z h0 n0 (Nat.le_trans Z0 K0.1) ) p2__0 own_pd10 [(.int z), (.int z)] [] (hC e27_18.1) rfl rfl (by rw [hml]; rfl) (by decide) 0 (Nat.le_of_eq rfl) (by decide) (by decide) (by decide : 0 + 0 ≤ _) (by decide : 0 + 0 ≤ _) fun vv4_ T4_ L4_ X4_ hQ4_ => ?_
  obtain ⟨rfl, N4_q, p4__0⟩ := hQ4_
  have N4_ := Fr.app N2_ N4_q
  refine jg T4_ mM 24 ll1 [(.int z), (.int (0 : Int32))] (fun tT kK => ?_) ?_
  · refine XS.istoreN X4_.here hx rfl (hC e27_18.2.1) rfl (l' := ll1) rfl ?_
    refine XS.iloadN X4_.here hx rfl (hC e27_18.2.2.1) rfl ?_
    refine XS.iloadN X4_.here hx rfl (hC e27_18.2.2.2) rfl ?_
    exact kK
  by_cases hc24_5_ : (0 : Int32) < z
  · refine jg T4_ mM 33 ll1 [(.int z), (.int (0 : Int32)), (.int p), (.ref t)] (fun tT kK => ?_) ?_
    · refine XS.icmpYes X4_.here hx rfl (pc0 := 24) (pc' := 29) rfl (hC e27_24.1) rfl (tlt (hc24_5_ : (0 : Int32) < z)).1 (by decide) (by decide) ?_
      refine XS.aloadN X4_.here hx rfl (hC e27_24.2.1) rfl rfl ?_
      refine XS.iloadN X4_.here hx rfl (hC e27_24.2.2.1) rfl ?_
      refine XS.iloadN X4_.here hx rfl (hC e27_24.2.2.2) rfl ?_
      refine XS.iloadN X4_.here hx rfl (hC e27_32.1) rfl ?_
      exact kK
    refine jc X4_ hx hZ (y := jy15) hown (jk hw 190 rfl) (jk hw 191 rfl) (jk hw 33 rfl) (jk hw 192 rfl) (rm_ixc lL Z a0 hw [] t p z f h0 n0 (Nat.le_trans Z0 K0.1) Tt) p4__0 own_pd11 [(.ref t), (.int p), (.int (0 : Int32)), (.int z)] [] (hC e27_32.2) rfl rfl (by rw [hml]; rfl) (by decide) 0 (Nat.le_of_eq rfl) (by decide) (by decide) (by decide : 0 + 0 ≤ _) (by decide : 0 + 0 ≤ _) fun vv6_ T6_ L6_ X6_ hQ6_ => ?_
    obtain ⟨rfl, N6_q, p6__0⟩ := hQ6_
    have N6_ := Fr.app N4_ N6_q
    exact own_rr X6_ hx hlk hre rfl (Or.inl ⟨rfl, Or.inl rfl, _, rfl⟩) (hC e27_36.1) p6__0 (by decide) (by decide) ⟨rfl, N6_, rfl⟩
  · refine jg T4_ mM 28 ll1 [(.int (-1 : Int32))] (fun tT kK => ?_) ?_
    · refine XS.icmpNo X4_.here hx rfl (hC e27_24.1) rfl (flt (hc24_5_ : ¬ ((0 : Int32) < z))).1 ?_
      refine XS.iconst X4_.here hx rfl (hC e27_36.2.1) ?_
      exact kK
    exact own_rr X4_ hx hlk hre rfl (Or.inl ⟨rfl, Or.inl rfl, _, rfl⟩) (hC e27_36.2.2) p4__0 (by decide) (by decide) ⟨by rw [own_zn hz hc24_5_]; rfl, N4_, rfl⟩
theorem e26_0 : jD17 0 (.aload_n 0, 1) ∧ jD17 1 (.invokevirtual 492, 3) ∧ jD17 4 (.ifCond .eq 19, 3) ∧ jD17 7 (.aload_n 0, 1) := by decide +kernel
theorem e26_8 : jD17 8 (.getfield 9, 3) ∧ jD17 11 (.iload_n 1, 1) ∧ jD17 12 (.iload_n 2, 1) ∧ jD17 13 (.aload_n 0, 1) := by decide +kernel
theorem d26_14 : jD17 14 (.invokevirtual 505, 3) := by decide +kernel
theorem own_pd12 : parseMethodDescriptor "()I" = some ⟨[], some .int⟩ := by decide +kernel
theorem e26_17 : jD17 17 (.invokestatic 637, 3) ∧ jD17 20 (.goto 16, 3) ∧ jD17 36 (.ireturn, 1) := by decide +kernel
theorem own_ef_rm_ix2 (mM : MethodId) (x0 : Addr) (x1 : Int32) (x2 : Int32) : entryFrame mM #[(.ref x0), (.int x1), (.int x2)] 3 = mkF mM 0 #[.val (.ref x0), .val (.int x1), .val (.int x2)] [] := by first | (simp [entryFrame, mkF, argsToLocals, Value.category]; done) | rfl
def Q_rm_ix2 (Z : State) (a : Addr) (p : Int32) (t : Addr) (z : Int32) (f : Int32 → Int32) (cs : Int32) (h0 : Heap) (n0 : Nat) (vV : Option Value) (hH : Heap) (lA : List Loc) : Prop := vV = some (.int (own_fd f (p.toInt8.toInt32) z.toNatClampNeg 0)) ∧ Fr n0 lA ∧ (hH = h0)
set_option maxRecDepth 65536 in
set_option maxHeartbeats 40000000 in
theorem rm_ix2 (lL : Launch) (Z : State) (a0 : Array Value) (hw : own_H a0 Z) (ws : List Jvm.Cond) (a : Addr) (p : Int32) (t : Addr) (z : Int32) (f : Int32 → Int32) (cs : Int32) (h0 : Heap) (n0 : Nat) (Z0 : n0 ≤ h0.size) (Oo : Old Z n0 h0) (Scs : Sta Z Z.heap "java/lang/String" "COMPACT_STRINGS" "Z" (.int cs)) (ncs : ¬ (cs = (0 : Int32))) (Ea : jE0 Z h0 a) (Fv : jF1 Z h0 a (.ref t)) (Fc : jF0 Z h0 a (.int (0 : Int32))) (Tt : own_T Z h0 t .byte z f) (h1 : ¬ (p < (0 : Int32))) (h2 : ¬ ((255 : Int32) < p)) :
    own_Met lL jy17 (Jvm.Cond.code jy17 jdk_42_method_80_code 3 (some .int) :: ws) jr9 #[(.ref a), (.int p), (.int (0 : Int32))] Z h0 (Q_rm_ix2 Z a p t z f cs h0 n0) := by
  refine own_begin (plainFor_of_name own_pn_java_lang_String) (fun mM => own_ef_rm_ix2 mM a p (0 : Int32)) fun pP eE sS mM below meth cC s₁ hx hby hml hZ hown hnm hre hlk X0 e0 => ?_
  have hC := @Jvm.hb _ _ hby
  have N0 := Fr.nil n0
  have K0 := Keep.refl h0 ([] : List Addr)
  let ll1 : Array Slot := #[vR a, vI p, vI 0]
  refine jg s₁ mM 1 ll1 [(.ref a)] (fun tT kK => ?_) ?_
  · refine XS.aloadN X0.here hx rfl (hC e26_0.1) rfl rfl ?_
    exact kK
  refine jv X0 hx hZ (y := jy4) hown (jk hw 23 rfl) (jk hw 24 rfl) (jk hw 26 rfl) (jk hw 25 rfl) (jk hw 27 rfl) (jk hw 11 rfl) (rm_isl lL Z a0 hw [] a cs h0 n0 (Nat.le_trans Z0 K0.1) Oo Scs ncs Fc) Ea e0 own_pd3 [] [] (hC e26_0.2.1) rfl rfl (by rw [hml]; rfl) (by decide) 0 (Nat.le_of_eq rfl) (by decide) (by decide) (by decide : 0 + 0 ≤ _) (by decide : 0 + 0 ≤ _) fun vv1_ T1_ L1_ X1_ hQ1_ => ?_
  obtain ⟨rfl, N1_q, p1__0⟩ := hQ1_
  have N1_ := Fr.app N0 N1_q
  refine jg T1_ mM 8 ll1 [(.ref a)] (fun tT kK => ?_) ?_
  · refine XS.ifNo X1_.here hx rfl (hC e26_0.2.2.1) rfl ((if0 _ _).trans (feq ((by decide) : ¬ ((1 : Int32) = (0 : Int32)))).1) ?_
    refine XS.aloadN X1_.here hx rfl (hC e26_0.2.2.2) rfl rfl ?_
    exact kK
  refine jf X1_ hx hZ hown (jk hw 30 rfl) p1__0 Fv (hC e26_8.1) fun T2_ X2_ e2_ => ?_
  refine jg T2_ mM 14 ll1 [(.ref a), (.int (0 : Int32)), (.int p), (.ref t)] (fun tT kK => ?_) ?_
  · refine XS.iloadN X2_.here hx rfl (hC e26_8.2.1) rfl ?_
    refine XS.iloadN X2_.here hx rfl (hC e26_8.2.2.1) rfl ?_
    refine XS.aloadN X2_.here hx rfl (hC e26_8.2.2.2) rfl rfl ?_
    exact kK
  refine jv X2_ hx hZ (y := jy1) hown (jk hw 119 rfl) (jk hw 88 rfl) (jk hw 90 rfl) (jk hw 89 rfl) (jk hw 91 rfl) (jk hw 11 rfl) (rm_slen lL Z a0 hw [] a t z f cs h0 n0 (Nat.le_trans Z0 K0.1) Oo Scs ncs Ea Fv Fc Tt) Ea e2_ own_pd12 [] [(.int (0 : Int32)), (.int p), (.ref t)] (hC d26_14) rfl rfl (by rw [hml]; rfl) (by decide) 3 (Nat.le_of_eq rfl) (by decide) (by decide) (by decide : 0 + 0 ≤ _) (by decide : 0 + 0 ≤ _) fun vv3_ T3_ L3_ X3_ hQ3_ => ?_
  obtain ⟨rfl, N3_q, p3__0⟩ := hQ3_
  have N3_ := Fr.app N1_ N3_q
  refine jc X3_ hx hZ (y := jy16) hown (jk hw 120 rfl) (jk hw 121 rfl) (jk hw 33 rfl) (jk hw 122 rfl) (rm_ixl lL Z a0 hw [] t p z f h0 n0 (Nat.le_trans Z0 K0.1) Tt h1 h2) p3__0 own_pd11 [(.ref t), (.int p), (.int (0 : Int32)), (.int z)] [] (hC e26_17.1) rfl rfl (by rw [hml]; rfl) (by decide) 0 (Nat.le_of_eq rfl) (by decide) (by decide) (by decide : 0 + 0 ≤ _) (by decide : 0 + 0 ≤ _) fun vv4_ T4_ L4_ X4_ hQ4_ => ?_
  obtain ⟨rfl, N4_q, p4__0⟩ := hQ4_
  have N4_ := Fr.app N3_ N4_q
  refine jg T4_ mM 36 ll1 [(.int (own_fd f (p.toInt8.toInt32) z.toNatClampNeg 0))] (fun tT kK => ?_) ?_
  · refine XS.goto X4_.here hx rfl (pc0 := 20) (pc' := 36) rfl (hC e26_17.2.1) (by decide) (by decide) ?_
    exact kK
  exact own_rr X4_ hx hlk hre rfl (Or.inl ⟨rfl, Or.inl rfl, _, rfl⟩) (hC e26_17.2.2) p4__0 (by decide) (by decide) ⟨rfl, N4_, rfl⟩
theorem e25_0 : jD18 0 (.aload_n 0, 1) ∧ jD18 1 (.iload_n 1, 1) ∧ jD18 2 (.iconst 0, 1) ∧ jD18 3 (.invokevirtual 633, 3) := by decide +kernel
theorem d25_6 : jD18 6 (.ireturn, 1) := by decide +kernel
theorem own_ef_rm_ix (mM : MethodId) (x0 : Addr) (x1 : Int32) : entryFrame mM #[(.ref x0), (.int x1)] 2 = mkF mM 0 #[.val (.ref x0), .val (.int x1)] [] := by first | (simp [entryFrame, mkF, argsToLocals, Value.category]; done) | rfl
def Q_rm_ix (Z : State) (a : Addr) (p : Int32) (t : Addr) (z : Int32) (f : Int32 → Int32) (cs : Int32) (h0 : Heap) (n0 : Nat) (vV : Option Value) (hH : Heap) (lA : List Loc) : Prop := vV = some (.int (own_fd f (p.toInt8.toInt32) z.toNatClampNeg 0)) ∧ Fr n0 lA ∧ (hH = h0)
set_option maxRecDepth 65536 in
set_option maxHeartbeats 40000000 in
theorem rm_ix (lL : Launch) (Z : State) (a0 : Array Value) (hw : own_H a0 Z) (ws : List Jvm.Cond) (a : Addr) (p : Int32) (t : Addr) (z : Int32) (f : Int32 → Int32) (cs : Int32) (h0 : Heap) (n0 : Nat) (Z0 : n0 ≤ h0.size) (Oo : Old Z n0 h0) (Scs : Sta Z Z.heap "java/lang/String" "COMPACT_STRINGS" "Z" (.int cs)) (ncs : ¬ (cs = (0 : Int32))) (Ea : jE0 Z h0 a) (Fv : jF1 Z h0 a (.ref t)) (Fc : jF0 Z h0 a (.int (0 : Int32))) (Tt : own_T Z h0 t .byte z f) (h1 : ¬ (p < (0 : Int32))) (h2 : ¬ ((255 : Int32) < p)) :
    own_Met lL jy18 (Jvm.Cond.code jy18 jdk_42_method_79_code 2 (some .int) :: ws) jr10 #[(.ref a), (.int p)] Z h0 (Q_rm_ix Z a p t z f cs h0 n0) := by
  refine own_begin (plainFor_of_name own_pn_java_lang_String) (fun mM => own_ef_rm_ix mM a p) fun pP eE sS mM below meth cC s₁ hx hby hml hZ hown hnm hre hlk X0 e0 => ?_
  have hC := @Jvm.hb _ _ hby
  have N0 := Fr.nil n0
  have K0 := Keep.refl h0 ([] : List Addr)
  refine jg s₁ mM 3 #[vR a, vI p] [(.int (0 : Int32)), (.int p), (.ref a)] (fun tT kK => ?_) ?_
  · refine XS.aloadN X0.here hx rfl (hC e25_0.1) rfl rfl ?_
    refine XS.iloadN X0.here hx rfl (hC e25_0.2.1) rfl ?_
    refine XS.iconst X0.here hx rfl (hC e25_0.2.2.1) ?_
    exact kK
  refine jv X0 hx hZ (y := jy17) hown (jk hw 114 rfl) (jk hw 115 rfl) (jk hw 117 rfl) (jk hw 116 rfl) (jk hw 118 rfl) (jk hw 11 rfl) (rm_ix2 lL Z a0 hw [] a p t z f cs h0 n0 (Nat.le_trans Z0 K0.1) Oo Scs ncs Ea Fv Fc Tt h1 h2) Ea e0 own_pd10 [(.int p), (.int (0 : Int32))] [] (hC e25_0.2.2.2) rfl rfl (by rw [hml]; rfl) (by decide) 0 (Nat.le_of_eq rfl) (by decide) (by decide) (by decide : 0 + 0 ≤ _) (by decide : 0 + 0 ≤ _) fun vv1_ T1_ L1_ X1_ hQ1_ => ?_
  obtain ⟨rfl, N1_q, p1__0⟩ := hQ1_
  have N1_ := Fr.app N0 N1_q
  exact own_rr X1_ hx hlk hre rfl (Or.inl ⟨rfl, Or.inl rfl, _, rfl⟩) (hC d25_6) p1__0 (by decide) (by decide) ⟨rfl, N1_, rfl⟩
def own_li (xs : List Int32) : Int32 → Int32 := fun j => xs.getD j.toNatClampNeg 0
theorem own_at_T {Z : State} {h : Heap} {b : Addr} {k : ClassId} {z : Int32} {xs : List Int32} (F : Arv Z h b k .byte z (xs.map Value.int) (.int (0 : Int32))) : own_T Z h b .byte z (own_li xs) := by
  obtain ⟨c, A, -, S, N, H, -⟩ := F
  refine ⟨c, A, S, N, fun j hj => ?_⟩
  have q := H j.toNatClampNeg (Nat.lt_of_not_le fun y => hj (Or.inr y))
  rw [q]
  simp only [own_li, List.getD_eq_getElem?_getD, List.getElem?_map]
  cases xs[j.toNatClampNeg]? <;> rfl
theorem own_T.safe {Z : State} {h : Heap} {a : Addr} {ty : FieldType} {z : Int32} {f : Int32 → Int32} {EL : List (String × Nat)} {vm : Vm} (hal : Z.vm.Alike vm) (F : own_T Z h a ty z f) (ht : ty ≠ .byte) : Safe Z EL vm h a := by
  obtain ⟨c, A, -⟩ := F
  exact Safe.arr hal A ht
theorem own_backSY {pP : Program} {lL : Launch} {eE : Env} {R : Room} {sS : State} {args : Array Value} {below : List Frame} {Z : State} {a0 : Array Value} {EL : List (String × Nat)} {h : Heap} {vm0 : Vm} {y : MethodName} {bytes : ByteArray} {maxL : Nat} {ret : Option FieldType} {rm : Room} {len W : Nat} {as' : Array Value} {Q : Option Value → Heap → List Loc → Prop} {ys : List Addr}
    (hM : MetFree lL y (head1 [Jvm.Cond.code y bytes maxL ret] rm) (fun a U => a = as' ∧ Z.Warmed39 U.vm ∧ U.heap = h ∧ CHv Z EL U.vm h ∧ ∀ x ∈ ys, Safe Z EL U.vm h x) (fun _ _ _ _ _ => True) (fun _ U o U' => ∃ v L, o = .returned v ∧ Q v U'.heap L ∧ CHr Z EL U.vm U.heap U'.vm U'.heap ∧ ReturnedEndW U o U' L rm.cells rm.slots))
    (hZ : Z.Warmed39 vm0) (wc : (Jvm.Cond.code y bytes maxL ret).before a0 Z = true) (wz : (Jvm.Cond.initialized y.cls).before a0 Z = true) (hf : rm.frames + 1 ≤ R.frames) (hl : W + (maxL + 11) + rm.locals ≤ R.locals) (hEL : EW Z a0 EL) (H : CHv Z EL vm0 h) (hy : ∀ x ∈ ys, x < h.size ∧ Safe Z EL vm0 h x) :
    BackS lL R pP eE below (sS.setVm vm0) args y len W (fun A a => a = as' ∧ A.U.heap = h ∧ A.cells + rm.cells ≤ R.cells ∧ A.slots + rm.slots ≤ R.slots)
      (fun A _ v B => ∃ L, Q v B.U.heap L ∧ B.locs = A.locs ++ L ∧ B.cells = A.cells + rm.cells ∧ B.slots = A.slots + rm.slots ∧ CHr Z EL vm0 h B.U.vm B.U.heap) :=
  BackS.of_freeW (bytes := bytes) (maxL := maxL) (ret := ret) (E := fun _ first o t L k n => k = rm.cells ∧ n = rm.slots ∧ (∃ v, o = .returned v ∧ Q v t.heap L) ∧ CHr Z EL first.vm first.heap t.vm t.heap) hM hf hl
    (fun m meth c A a Y hp => have hU : Z.Warmed39 A.U.vm := wtrans (s := sS.setVm vm0) hZ Y.warmed
      ⟨by show (Cond.and _ .tt).before a A.U = true; rw [Cond.before_and, mv hU wc]; rfl, mv hU wc, mv hU wz, hp.2.2.1, hp.2.2.2⟩)
    (fun m meth c A a g mk Y hp => ⟨hp.1, wtrans (s := sS.setVm vm0) hZ Y.warmed, hp.2.1, (CHv.at Y hZ hEL H).1, fun x hx => (CHv.at Y hZ hEL H).safe (hy x hx).1 (hy x hx).2⟩) (fun _ _ _ _ _ _ _ _ _ => trivial)
    (fun _ _ _ _ ⟨v, L, h1, h2, h3, h4⟩ => ⟨L, _, _, h4, rfl, rfl, ⟨v, h1, h2⟩, h3⟩)
    (fun m meth c A a g mk v t L k n Y hp _ _ ⟨e1, e2, ⟨v', e3, e4⟩, e5⟩ => by
      cases e3; subst e1 e2
      refine ⟨L, e4, rfl, rfl, rfl, (CHv.at Y hZ hEL H).trans ?_⟩
      rw [← hp.2.1]; exact e5)
theorem own_y0 {h : Heap} {P : Addr → Prop} : ∀ x ∈ ([] : List Addr), x < h.size ∧ P x := fun _ q => nomatch q
theorem own_yS {h : Heap} {P : Addr → Prop} {a : Addr} {ws : List Addr} (h1 : a < h.size) (h2 : P a) (r : ∀ x ∈ ws, x < h.size ∧ P x) : ∀ x ∈ a :: ws, x < h.size ∧ P x := fun x q => by
  rcases List.mem_cons.mp q with rfl | q
  · exact ⟨h1, h2⟩
  · exact r x q
theorem own_hk {T : State} {h : Heap} {k : Nat} (e : T.heap = h) (q : k ≤ h.size) : k ≤ T.heap.size := by rw [e]; exact q
theorem own_CHe {Z : State} {EL : List (String × Nat)} {vm vm1 : Vm} {g h : Heap} {S T : State} (e1 : S.heap = g) (e2 : T.heap = h) (C : CHr Z EL vm g vm1 h) : CHr Z EL vm S.heap vm1 T.heap := by rw [e1, e2]; exact C
def own_EL : List (String × Nat) := [("com/example/waldrapp/waldrapp/IntentEqualsPinLaw", 7), ("java/lang/String", 7)]
set_option maxRecDepth 65536 in
theorem own_EW {Z : State} {a0 : Array Value} (hw : own_H a0 Z) : EW Z a0 own_EL := (EW.cons (text := "ABCDEFGHIJKLMNOPQRSTUVWXYZabcdefghijklmnopqrstuvwxyz0123456789._:-") (jk hw 10 rfl) (by decide) (EW.cons (text := "") (jk hw 74 rfl) (by decide) EW.nil))
theorem own_wS {Z : State} {a0 : Array Value} (hw : own_H a0 Z) : ∀ a ∈ Bundle.stringAtoms, a.before a0 Z = true := by
  intro a ha
  simp only [Bundle.stringAtoms, List.mem_cons, List.not_mem_nil, or_false] at ha
  rcases ha with rfl | rfl | rfl | rfl | rfl | rfl | rfl
  · exact (jk hw 11 rfl)
  · exact (jk hw 12 rfl)
  · exact (jk hw 13 rfl)
  · exact (jk hw 14 rfl)
  · exact (jk hw 15 rfl)
  · exact (jk hw 16 rfl)
  · exact (jk hw 17 rfl)
abbrev own_al : List Int32 := [(65 : Int32), (66 : Int32), (67 : Int32), (68 : Int32), (69 : Int32), (70 : Int32), (71 : Int32), (72 : Int32), (73 : Int32), (74 : Int32), (75 : Int32), (76 : Int32), (77 : Int32), (78 : Int32), (79 : Int32), (80 : Int32), (81 : Int32), (82 : Int32), (83 : Int32), (84 : Int32), (85 : Int32), (86 : Int32), (87 : Int32), (88 : Int32), (89 : Int32), (90 : Int32), (97 : Int32), (98 : Int32), (99 : Int32), (100 : Int32), (101 : Int32), (102 : Int32), (103 : Int32), (104 : Int32), (105 : Int32), (106 : Int32), (107 : Int32), (108 : Int32), (109 : Int32), (110 : Int32), (111 : Int32), (112 : Int32), (113 : Int32), (114 : Int32), (115 : Int32), (116 : Int32), (117 : Int32), (118 : Int32), (119 : Int32), (120 : Int32), (121 : Int32), (122 : Int32), (48 : Int32), (49 : Int32), (50 : Int32), (51 : Int32), (52 : Int32), (53 : Int32), (54 : Int32), (55 : Int32), (56 : Int32), (57 : Int32), (46 : Int32), (95 : Int32), (58 : Int32), (45 : Int32)]
def own_eqn (f g : Int32 → Int32) : Nat → Nat → Int32
  | 0, _ => 1
  | k + 1, i => if f (Int32.ofNat i) = g (Int32.ofNat i) then own_eqn f g k (i + 1) else 0
def own_eq (z : Int32) (f : Int32 → Int32) (z' : Int32) (g : Int32 → Int32) : Int32 := if z = z' then own_eqn f g z.toNatClampNeg 0 else 0
theorem own_eqns (f g : Int32 → Int32) : ∀ k i, own_eqn f g k i = own_eqn g f k i
  | 0, _ => rfl
  | k + 1, i => by
    unfold own_eqn
    by_cases h : f (Int32.ofNat i) = g (Int32.ofNat i)
    · rw [if_pos h, if_pos h.symm]; exact own_eqns f g k (i + 1)
    · rw [if_neg h, if_neg (fun q => h q.symm)]
theorem own_eqs (z : Int32) (f : Int32 → Int32) (z' : Int32) (g : Int32 → Int32) : own_eq z f z' g = own_eq z' g z f := by
  unfold own_eq
  by_cases h : z = z'
  · rw [if_pos h, if_pos h.symm, h]; exact own_eqns f g _ _
  · rw [if_neg h, if_neg (fun q => h q.symm)]
theorem own_eqy {f g : Int32 → Int32} {r : Int32} {k i : Nat} (h : own_eqn f g (k + 1) i = r) (e : f (Int32.ofNat i) = g (Int32.ofNat i)) : own_eqn f g k (i + 1) = r := by rw [← h]; exact (if_pos e).symm
theorem own_eqx {f g : Int32 → Int32} {r : Int32} {k i : Nat} (h : own_eqn f g (k + 1) i = r) (e : ¬ f (Int32.ofNat i) = g (Int32.ofNat i)) : r = 0 := by rw [← h]; exact if_neg e
theorem own_eq01 (z : Int32) (f : Int32 → Int32) (z' : Int32) (g : Int32 → Int32) : own_eq z f z' g = 0 ∨ own_eq z f z' g = 1 := by
  unfold own_eq
  by_cases h : z = z'
  · rw [if_pos h]
    have : ∀ k i, own_eqn f g k i = 0 ∨ own_eqn f g k i = 1 := by
      intro k
      induction k with
      | zero => intro i; exact Or.inr rfl
      | succ k ih =>
        intro i
        unfold own_eqn
        by_cases q : f (Int32.ofNat i) = g (Int32.ofNat i)
        · rw [if_pos q]; exact ih _
        · rw [if_neg q]; exact Or.inl rfl
    exact this _ _
  · rw [if_neg h]; exact Or.inl rfl
theorem own_eqself {Z : State} {h : Heap} {a b t t2 : Addr} {z z2 : Int32} {f g : Int32 → Int32} (hab : a = b) (F1 : jF1 Z h a (.ref t)) (F2 : jF1 Z h b (.ref t2)) (T1 : own_T Z h t .byte z f) (T2 : own_T Z h t2 .byte z2 g) : own_eq z f z2 g = 1 := by
  subst hab
  obtain ⟨c1, _, _, _, _, h1, h2, -, -, -, -, h7⟩ := F1
  obtain ⟨c2, _, _, _, _, g1, g2, -, -, -, -, g7⟩ := F2
  cases h1.symm.trans g1
  cases h2.symm.trans g2
  have e := Value.ref.inj (Option.some.inj (h7.symm.trans g7))
  subst e
  obtain ⟨c, A, S, N, H⟩ := T1
  obtain ⟨c', A', S', N', H'⟩ := T2
  cases A.1.symm.trans A'.1
  have ez : z = z2 := by
    apply Int32.toInt_inj.mp
    rw [nat_of N, nat_of N', ← S, ← S']
  subst ez
  unfold own_eq
  rw [if_pos rfl]
  have key : ∀ k i, i + k ≤ z.toNatClampNeg → own_eqn f g k i = 1 := by
    intro k
    induction k with
    | zero => intro i _; rfl
    | succ k ih =>
      intro i hi
      have hin : ¬ (Int32.ofNat i < 0 ∨ c.slots.size ≤ (Int32.ofNat i).toNatClampNeg) := inb_of S (own_inz N (by omega))
      have e : f (Int32.ofNat i) = g (Int32.ofNat i) := Value.int.inj (Option.some.inj ((H _ hin).symm.trans (H' _ hin)))
      unfold own_eqn
      rw [if_pos e]
      exact ih (i + 1) (by omega)
  exact key _ 0 (by omega)
theorem own_upB {f : Int32 → Int32} {i x : Int32} (hf : ∀ j, 0 ≤ (f j).toInt ∧ (f j).toInt ≤ 255) (hx : 0 ≤ x.toInt ∧ x.toInt ≤ 255) : ∀ j, 0 ≤ (own_up f i x j).toInt ∧ (own_up f i x j).toInt ≤ 255 := fun j => by
  unfold own_up; split
  · exact hx
  · exact hf j
theorem own_z0 : ∀ j : Int32, 0 ≤ ((fun _ => (0 : Int32)) j : Int32).toInt ∧ ((fun _ => (0 : Int32)) j : Int32).toInt ≤ 255 := fun _ => (by decide : 0 ≤ (0 : Int32).toInt ∧ (0 : Int32).toInt ≤ 255)
theorem own_ncb {x : Int32} (h : 0 ≤ x.toInt ∧ x.toInt ≤ 255) : 0 ≤ (nar .char x).toInt ∧ (nar .char x).toInt ≤ 255 := by rw [own_nch h.1 (by omega)]; exact h
theorem own_lch (x : Int64) : 0 ≤ (((x &&& (255 : Int64)).toInt32).toUInt32.toUInt16.toUInt32.toInt32).toInt ∧ (((x &&& (255 : Int64)).toInt32).toUInt32.toUInt16.toUInt32.toInt32).toInt ≤ 255 := by
  have m := c_maskL x (255 : Int64) 8 (by decide) (by decide)
  have a := c_l2i (x &&& (255 : Int64))
  have r := rng32 ((x &&& (255 : Int64)).toInt32)
  have e : ((x &&& (255 : Int64)).toInt32).toInt = x.toInt % 256 := by
    have m2 : (x &&& (255 : Int64)).toInt = x.toInt % 256 := m
    omega
  rw [own_i2c (by omega) (by omega)]
  omega
theorem own_chb2 (x : Int32) : 0 ≤ (own_ch x).toInt ∧ (own_ch x).toInt ≤ 255 := own_chb x
theorem e35_9 : jD19 9 (.iload_n 2, 1) ∧ jD19 10 (.aload_n 0, 1) ∧ jD19 11 (.arraylength, 1) ∧ jD19 12 (.if_icmp .ge 20, 3) := by decide +kernel
theorem e35_15 : jD19 15 (.aload_n 0, 1) ∧ jD19 16 (.iload_n 2, 1) ∧ jD19 17 (.baload, 1) ∧ jD19 18 (.aload_n 1, 1) := by decide +kernel
theorem e35_19 : jD19 19 (.iload_n 2, 1) ∧ jD19 20 (.baload, 1) ∧ jD19 21 (.if_icmp .eq 5, 3) ∧ jD19 26 (.iinc 2 1, 3) := by decide +kernel
theorem d35_29 : jD19 29 (.goto (-20), 3) := by decide +kernel
set_option maxRecDepth 65536 in
set_option maxHeartbeats 40000000 in
theorem own_lpe {pP : Program} {lL : Launch} {eE : Env} {R : Room} {sS : State} {mM : MethodId} {args : Array Value} {below : List Frame} {meth : Method} {cC : Code} {cells slots : Nat} {PP : State → Outcome → Prop} (Z : State) (a0 : Array Value) (hw : own_H a0 Z) (t : Addr) (t2 : Addr) (z : Int32) (f : Int32 → Int32) (z2 : Int32) (g : Int32 → Int32) (r : Int32) (h0 : Heap) (n0 : Nat) (Z0 : n0 ≤ h0.size) (Tt : own_T Z h0 t .byte z f) (T2 : own_T Z h0 t2 .byte z2 g) (hzz : z = z2) (hx : pP.tables.exec = Jvm.exec) (hZ : Z.Warmed39 sS.vm) (hby : cC.code = jdk_43_method_13_code) (hml : cC.maxLocals = 3) (hown : sS.vm.findClass "java/lang/StringLatin1" = some mM.cls)
    (kont0 : ∀ (Th : State) (hh : Heap) (Lh : List Loc), Stand pP lL eE R sS mM args below meth cC Th Lh cells slots → Th.heap = hh → Fr n0 Lh → Keep h0 hh ([] : List Addr) → (hh = h0) → (r = (1 : Int32)) → own_Fin pP eE below PP (Th.setTop (mkF mM 32 #[.val (.ref t), .val (.ref t2), .val (.int (Int32.ofNat z.toNatClampNeg))] [])))
    (kont1 : ∀ (j : Nat) (Th : State) (hh : Heap) (Lh : List Loc), Stand pP lL eE R sS mM args below meth cC Th Lh cells slots → Th.heap = hh → Fr n0 Lh → Keep h0 hh ([] : List Addr) → (hh = h0) → (r = (0 : Int32)) → own_Fin pP eE below PP (Th.setTop (mkF mM 24 #[.val (.ref t), .val (.ref t2), .val (.int (Int32.ofNat j))] []))) :
    ∀ (k i : Nat) (Th : State) (hh : Heap) (Lh : List Loc), i + k = z.toNatClampNeg → Stand pP lL eE R sS mM args below meth cC Th Lh cells slots → Th.heap = hh → Fr n0 Lh → Keep h0 hh ([] : List Addr) → (hh = h0) → (own_eqn f g k i = r) → own_Fin pP eE below PP (Th.setTop (mkF mM 9 #[.val (.ref t), .val (.ref t2), .val (.int (Int32.ofNat i))] [])) := by
  have hC := @Jvm.hb _ _ hby
  intro k
  induction k with
  | zero =>
      intro i  Th hh Lh hik Xh eh Nh Kh Ph Pi
      rw [Ph] at eh Kh
      have hz := Tt.nn
      obtain rfl : i = z.toNatClampNeg := by omega
      let ll1 : Array Slot := #[vR t, vR t2, vI (Int32.ofNat z.toNatClampNeg)]
      refine jg Th mM 11 ll1 [(.ref t), (.int (Int32.ofNat z.toNatClampNeg))] (fun tT kK => ?_) ?_
      · refine XS.iloadN Xh.here hx rfl (hC e35_9.1) rfl ?_
        refine XS.aloadN Xh.here hx rfl (hC e35_9.2.1) rfl rfl ?_
        exact kK
      obtain ⟨cl1_, Ar1_, Sz1_, Nn1_, -⟩ := id Tt
      refine jg Th mM 32 ll1 [] (fun tT kK => ?_) ?_
      · refine Xh.arraylength hx (own_rw eh Ar1_.1) (State.isArrayOf_alike hZ.alike Ar1_.2.1) (g := (mkF mM 11 ll1 [(.ref t), (.int (Int32.ofNat z.toNatClampNeg))])) rfl rfl (hC e35_9.2.2.1) _ ?_
        rw [len_of Sz1_ Nn1_]
        refine XS.icmpYes Xh.here hx rfl (pc0 := 12) (pc' := 32) rfl (hC e35_9.2.2.2) rfl (flt (own_nlt hz : ¬ ((Int32.ofNat z.toNatClampNeg) < z))).2.1 (by decide) (by decide) ?_
        exact kK
      exact kont0  _ _ _ Xh eh Nh Kh rfl Pi.symm
  | succ k ih =>
      intro i  Th hh Lh hik Xh eh Nh Kh Ph Pi
      rw [Ph] at eh Kh
      have hz := Tt.nn
      have hi : i < z.toNatClampNeg := by omega
      let ll2 : Array Slot := #[vR t, vR t2, vI (Int32.ofNat i)]
      refine jg Th mM 11 ll2 [(.ref t), (.int (Int32.ofNat i))] (fun tT kK => ?_) ?_
      · refine XS.iloadN Xh.here hx rfl (hC e35_9.1) rfl ?_
        refine XS.aloadN Xh.here hx rfl (hC e35_9.2.1) rfl rfl ?_
        exact kK
      obtain ⟨cl2_, Ar2_, Sz2_, Nn2_, -⟩ := id Tt
      refine jg Th mM 17 ll2 [(.int (Int32.ofNat i)), (.ref t)] (fun tT kK => ?_) ?_
      · refine Xh.arraylength hx (own_rw eh Ar2_.1) (State.isArrayOf_alike hZ.alike Ar2_.2.1) (g := (mkF mM 11 ll2 [(.ref t), (.int (Int32.ofNat i))])) rfl rfl (hC e35_9.2.2.1) _ ?_
        rw [len_of Sz2_ Nn2_]
        refine XS.icmpNo Xh.here hx rfl (hC e35_9.2.2.2) rfl (tlt (own_ltz hz hi : (Int32.ofNat i) < z)).2.1 ?_
        refine XS.aloadN Xh.here hx rfl (hC e35_15.1) rfl rfl ?_
        refine XS.iloadN Xh.here hx rfl (hC e35_15.2.1) rfl ?_
        exact kK
      obtain ⟨cl3_, Ar3_, Sz3_, Nn3_, Hh3_⟩ := id Tt
      have hin3_ : ¬ ((Int32.ofNat i) < 0 ∨ cl3_.slots.size ≤ ((Int32.ofNat i)).toNatClampNeg) := inb_of Sz3_ (by first | exact own_inz hz hi | (rw [← hzz]; exact own_inz hz hi))
      have hat3_ : cl3_.slots[((Int32.ofNat i)).toNatClampNeg]? = some (.int (f (Int32.ofNat i))) := Hh3_ _ hin3_
      refine jg Th mM 20 ll2 [(.int (Int32.ofNat i)), (.ref t2), (.int (f (Int32.ofNat i)))] (fun tT kK => ?_) ?_
      · refine Xh.baloadBytes hx (j := (Int32.ofNat i)) (v := (.int (f (Int32.ofNat i)))) (own_rw eh Ar3_.1) (State.isArrayOf_alike hZ.alike Ar3_.2.1) Ar3_.2.2 hin3_ hat3_ (g := (mkF mM 17 ll2 [(.int (Int32.ofNat i)), (.ref t)])) rfl rfl (hC e35_15.2.2.1) _ ?_
        refine XS.aloadN Xh.here hx rfl (hC e35_15.2.2.2) rfl rfl ?_
        refine XS.iloadN Xh.here hx rfl (hC e35_19.1) rfl ?_
        exact kK
      obtain ⟨cl4_, Ar4_, Sz4_, Nn4_, Hh4_⟩ := id T2
      have hin4_ : ¬ ((Int32.ofNat i) < 0 ∨ cl4_.slots.size ≤ ((Int32.ofNat i)).toNatClampNeg) := inb_of Sz4_ (by first | exact own_inz hz hi | (rw [← hzz]; exact own_inz hz hi))
      have hat4_ : cl4_.slots[((Int32.ofNat i)).toNatClampNeg]? = some (.int (g (Int32.ofNat i))) := Hh4_ _ hin4_
      refine jg Th mM 21 ll2 [(.int (g (Int32.ofNat i))), (.int (f (Int32.ofNat i)))] (fun tT kK => ?_) ?_
      · refine Xh.baloadBytes hx (j := (Int32.ofNat i)) (v := (.int (g (Int32.ofNat i)))) (own_rw eh Ar4_.1) (State.isArrayOf_alike hZ.alike Ar4_.2.1) Ar4_.2.2 hin4_ hat4_ (g := (mkF mM 20 ll2 [(.int (Int32.ofNat i)), (.ref t2), (.int (f (Int32.ofNat i)))])) rfl rfl (hC e35_19.2.1) _ ?_
        exact kK
      by_cases hc21_5_ : (f (Int32.ofNat i)) = (g (Int32.ofNat i))
      · let ll3 : Array Slot := #[vR t, vR t2, vI ((Int32.ofNat i) + (1 : Int32))]
        refine jg Th mM 9 ll3 [] (fun tT kK => ?_) ?_
        · refine XS.icmpYes Xh.here hx rfl (pc0 := 21) (pc' := 26) rfl (hC e35_19.2.2.1) rfl (teq (hc21_5_ : (f (Int32.ofNat i)) = (g (Int32.ofNat i)))).1 (by decide) (by decide) ?_
          refine XS.iinc Xh.here hx rfl (hC e35_19.2.2.2) rfl (l' := ll3) rfl ?_
          refine XS.goto Xh.here hx rfl (pc0 := 29) (pc' := 9) rfl (hC d35_29) (by decide) (by decide) ?_
          exact kK
        show own_Fin pP eE below _ (Th.setTop (mkF mM 9 #[.val (.ref t), .val (.ref t2), .val (.int ((Int32.ofNat i) + (1 : Int32)))] []))
        rw [own_one i]
        exact ih (i + 1)  _ _ _ (by omega) Xh eh Nh Kh rfl (own_eqy Pi hc21_5_)
      · refine jg Th mM 24 ll2 [] (fun tT kK => ?_) ?_
        · refine XS.icmpNo Xh.here hx rfl (hC e35_19.2.2.1) rfl (feq (hc21_5_ : ¬ ((f (Int32.ofNat i)) = (g (Int32.ofNat i))))).1 ?_
          exact kK
        exact kont1 i _ _ _ Xh eh Nh Kh rfl (own_eqx Pi hc21_5_)
theorem e35_0 : jD19 0 (.aload_n 0, 1) ∧ jD19 1 (.arraylength, 1) ∧ jD19 2 (.aload_n 1, 1) ∧ jD19 3 (.arraylength, 1) := by decide +kernel
theorem e35_4 : jD19 4 (.if_icmp .ne 30, 3) ∧ jD19 7 (.iconst 0, 1) ∧ jD19 8 (.istore_n 2, 1) ∧ jD19 32 (.iconst 1, 1) := by decide +kernel
theorem e35_33 : jD19 33 (.ireturn, 1) ∧ jD19 24 (.iconst 0, 1) ∧ jD19 25 (.ireturn, 1) ∧ jD19 34 (.iconst 0, 1) := by decide +kernel
theorem d35_35 : jD19 35 (.ireturn, 1) := by decide +kernel
theorem own_ef_rm_leq (mM : MethodId) (x0 : Addr) (x1 : Addr) : entryFrame mM #[(.ref x0), (.ref x1)] 3 = mkF mM 0 #[.val (.ref x0), .val (.ref x1), .unset] [] := by first | (simp [entryFrame, mkF, argsToLocals, Value.category]; done) | rfl
def Q_rm_leq (Z : State) (t : Addr) (t2 : Addr) (z : Int32) (f : Int32 → Int32) (z2 : Int32) (g : Int32 → Int32) (h0 : Heap) (n0 : Nat) (vV : Option Value) (hH : Heap) (lA : List Loc) : Prop := vV = some (.int (own_eq z f z2 g)) ∧ Fr n0 lA ∧ (hH = h0)
set_option maxRecDepth 65536 in
set_option maxHeartbeats 40000000 in
theorem rm_leq (lL : Launch) (Z : State) (a0 : Array Value) (hw : own_H a0 Z) (ws : List Jvm.Cond) (t : Addr) (t2 : Addr) (z : Int32) (f : Int32 → Int32) (z2 : Int32) (g : Int32 → Int32) (h0 : Heap) (n0 : Nat) (Z0 : n0 ≤ h0.size) (Tt : own_T Z h0 t .byte z f) (T2 : own_T Z h0 t2 .byte z2 g) :
    own_Met lL jy19 (Jvm.Cond.code jy19 jdk_43_method_13_code 3 (some .boolean) :: ws) jr0 #[(.ref t), (.ref t2)] Z h0 (Q_rm_leq Z t t2 z f z2 g h0 n0) := by
  refine own_begin (plainFor_of_name own_pn_java_lang_StringLatin1) (fun mM => own_ef_rm_leq mM t t2) fun pP eE sS mM below meth cC s₁ hx hby hml hZ hown hnm hre hlk X0 e0 => ?_
  have hC := @Jvm.hb _ _ hby
  have N0 := Fr.nil n0
  have K0 := Keep.refl h0 ([] : List Addr)
  refine jg s₁ mM 1 #[vR t, vR t2, vU] [(.ref t)] (fun tT kK => ?_) ?_
  · refine XS.aloadN X0.here hx rfl (hC e35_0.1) rfl rfl ?_
    exact kK
  obtain ⟨cl1_, Ar1_, Sz1_, Nn1_, -⟩ := id Tt
  refine jg s₁ mM 3 #[vR t, vR t2, vU] [(.ref t2), (.int z)] (fun tT kK => ?_) ?_
  · refine X0.arraylength hx (own_rw e0 Ar1_.1) (State.isArrayOf_alike hZ.alike Ar1_.2.1) (g := (mkF mM 1 #[vR t, vR t2, vU] [(.ref t)])) rfl rfl (hC e35_0.2.1) _ ?_
    rw [len_of Sz1_ Nn1_]
    refine XS.aloadN X0.here hx rfl (hC e35_0.2.2.1) rfl rfl ?_
    exact kK
  obtain ⟨cl2_, Ar2_, Sz2_, Nn2_, -⟩ := id T2
  refine jg s₁ mM 4 #[vR t, vR t2, vU] [(.int z2), (.int z)] (fun tT kK => ?_) ?_
  · refine X0.arraylength hx (own_rw e0 Ar2_.1) (State.isArrayOf_alike hZ.alike Ar2_.2.1) (g := (mkF mM 3 #[vR t, vR t2, vU] [(.ref t2), (.int z)])) rfl rfl (hC e35_0.2.2.2) _ ?_
    rw [len_of Sz2_ Nn2_]
    exact kK
  by_cases hc4_3_ : z = z2
  · let ll1 : Array Slot := #[vR t, vR t2, vI 0]
    refine jg s₁ mM 9 ll1 [] (fun tT kK => ?_) ?_
    · refine XS.icmpNo X0.here hx rfl (hC e35_4.1) rfl (teq (hc4_3_ : z = z2)).2 ?_
      refine XS.iconst X0.here hx rfl (hC e35_4.2.1) ?_
      refine XS.istoreN X0.here hx rfl (hC e35_4.2.2.1) rfl (l' := ll1) rfl ?_
      exact kK
    refine own_lpe Z a0 hw t t2 z f z2 g (own_eqn f g z.toNatClampNeg 0) h0 n0 Z0 Tt T2 hc4_3_ hx hZ hby hml hown ?_ ?_ z.toNatClampNeg 0  _ _ _ (by omega) X0 e0 N0 K0 rfl rfl
    · intro  T4_ h4_ L4_ X4_ e4_ N4_ K4_ p4__0 p4__1
      let ll2 : Array Slot := #[vR t, vR t2, vI (Int32.ofNat z.toNatClampNeg)]
      refine jg T4_ mM 33 ll2 [(.int (1 : Int32))] (fun tT kK => ?_) ?_
      · refine XS.iconst X4_.here hx rfl (hC e35_4.2.2.2) ?_
        exact kK
      exact own_rL X4_ hx hlk hre (by simp) (hC e35_33.1) (w := (.int (1 : Int32))) rfl (e4_.trans p4__0) (by decide) (by decide) ⟨by unfold own_eq; rw [if_pos hc4_3_, p4__1], N4_, rfl⟩
    · intro j_5_ T5_ h5_ L5_ X5_ e5_ N5_ K5_ p5__0 p5__1
      let ll3 : Array Slot := #[vR t, vR t2, vI (Int32.ofNat j_5_)]
      refine jg T5_ mM 25 ll3 [(.int (0 : Int32))] (fun tT kK => ?_) ?_
      · refine XS.iconst X5_.here hx rfl (hC e35_33.2.1) ?_
        exact kK
      exact own_rL X5_ hx hlk hre (by simp) (hC e35_33.2.2.1) (w := (.int (0 : Int32))) rfl (e5_.trans p5__0) (by decide) (by decide) ⟨by unfold own_eq; rw [if_pos hc4_3_, p5__1], N5_, rfl⟩
  · refine jg s₁ mM 35 #[vR t, vR t2, vU] [(.int (0 : Int32))] (fun tT kK => ?_) ?_
    · refine XS.icmpYes X0.here hx rfl (pc0 := 4) (pc' := 34) rfl (hC e35_4.1) rfl (feq (hc4_3_ : ¬ (z = z2))).2 (by decide) (by decide) ?_
      refine XS.iconst X0.here hx rfl (hC e35_33.2.2.2) ?_
      exact kK
    exact own_rL X0 hx hlk hre (by simp) (hC d35_35) (w := (.int (0 : Int32))) rfl e0 (by decide) (by decide) ⟨by unfold own_eq; rw [if_neg hc4_3_], N0, rfl⟩
theorem e34_0 : jD20 0 (.aload_n 0, 1) ∧ jD20 1 (.aload_n 1, 1) ∧ jD20 2 (.if_acmp .ne 5, 3) ∧ jD20 5 (.iconst 1, 1) := by decide +kernel
theorem e34_6 : jD20 6 (.ireturn, 1) ∧ jD20 7 (.aload_n 1, 1) ∧ jD20 8 (.instanceof 10, 3) ∧ jD20 11 (.ifCond .eq 43, 3) := by decide +kernel
theorem e34_14 : jD20 14 (.aload_n 1, 1) ∧ jD20 15 (.checkcast 10, 3) ∧ jD20 18 (.astore_n 2, 1) ∧ jD20 19 (.getstatic 38, 3) := by decide +kernel
theorem e34_22 : jD20 22 (.ifCond .eq 14, 3) ∧ jD20 25 (.aload_n 0, 1) ∧ jD20 26 (.getfield 15, 3) ∧ jD20 29 (.aload_n 2, 1) := by decide +kernel
theorem e34_30 : jD20 30 (.getfield 15, 3) ∧ jD20 33 (.if_icmp .ne 21, 3) ∧ jD20 36 (.aload_n 0, 1) ∧ jD20 37 (.getfield 9, 3) := by decide +kernel
theorem e34_40 : jD20 40 (.aload_n 2, 1) ∧ jD20 41 (.getfield 9, 3) ∧ jD20 44 (.invokestatic 541, 3) := by decide +kernel
theorem own_pd13 : parseMethodDescriptor "([B[B)Z" = some ⟨[(.array .byte), (.array .byte)], some .boolean⟩ := by decide +kernel
theorem e34_47 : jD20 47 (.ifCond .eq 7, 3) ∧ jD20 54 (.iconst 0, 1) ∧ jD20 55 (.ireturn, 1) ∧ jD20 50 (.iconst 1, 1) := by decide +kernel
theorem d34_51 : jD20 51 (.goto 4, 3) := by decide +kernel
theorem own_ef_rm_eq (mM : MethodId) (x0 : Addr) (x1 : Addr) : entryFrame mM #[(.ref x0), (.ref x1)] 3 = mkF mM 0 #[.val (.ref x0), .val (.ref x1), .unset] [] := by first | (simp [entryFrame, mkF, argsToLocals, Value.category]; done) | rfl
def Q_rm_eq (Z : State) (a : Addr) (b : Addr) (t : Addr) (t2 : Addr) (z : Int32) (f : Int32 → Int32) (z2 : Int32) (g : Int32 → Int32) (cs : Int32) (h0 : Heap) (n0 : Nat) (vV : Option Value) (hH : Heap) (lA : List Loc) : Prop := vV = some (.int (own_eq z f z2 g)) ∧ Fr n0 lA ∧ (hH = h0)
set_option maxRecDepth 65536 in
set_option maxHeartbeats 40000000 in
theorem rm_eq (lL : Launch) (Z : State) (a0 : Array Value) (hw : own_H a0 Z) (ws : List Jvm.Cond) (a : Addr) (b : Addr) (t : Addr) (t2 : Addr) (z : Int32) (f : Int32 → Int32) (z2 : Int32) (g : Int32 → Int32) (cs : Int32) (h0 : Heap) (n0 : Nat) (Z0 : n0 ≤ h0.size) (Oo : Old Z n0 h0) (Scs : Sta Z Z.heap "java/lang/String" "COMPACT_STRINGS" "Z" (.int cs)) (ncs : ¬ (cs = (0 : Int32))) (E1 : jE0 Z h0 a) (Fv1 : jF1 Z h0 a (.ref t)) (Fc1 : jF0 Z h0 a (.int (0 : Int32))) (Tt1 : own_T Z h0 t .byte z f) (E2 : jE0 Z h0 b) (Fv2 : jF1 Z h0 b (.ref t2)) (Fc2 : jF0 Z h0 b (.int (0 : Int32))) (Tt2 : own_T Z h0 t2 .byte z2 g) :
    own_Met lL jy20 (Jvm.Cond.code jy20 jdk_42_method_66_code 3 (some .boolean) :: ws) jr2 #[(.ref a), (.ref b)] Z h0 (Q_rm_eq Z a b t t2 z f z2 g cs h0 n0) := by
  refine own_begin (plainFor_of_name own_pn_java_lang_String) (fun mM => own_ef_rm_eq mM a b) fun pP eE sS mM below meth cC s₁ hx hby hml hZ hown hnm hre hlk X0 e0 => ?_
  have hC := @Jvm.hb _ _ hby
  have N0 := Fr.nil n0
  have K0 := Keep.refl h0 ([] : List Addr)
  refine jg s₁ mM 2 #[vR a, vR b, vU] [(.ref b), (.ref a)] (fun tT kK => ?_) ?_
  · refine XS.aloadN X0.here hx rfl (hC e34_0.1) rfl rfl ?_
    refine XS.aloadN X0.here hx rfl (hC e34_0.2.1) rfl rfl ?_
    exact kK
  by_cases hc1_ : a = b
  · refine jg s₁ mM 6 #[vR a, vR b, vU] [(.int (1 : Int32))] (fun tT kK => ?_) ?_
    · refine Jvm.RoadKit.acmp (g := (mkF mM 2 #[vR a, vR b, vU] [(.ref b), (.ref a)])) X0 hx rfl rfl rfl (pc0 := 2) (pc' := 5) (same := true) rfl (hC e34_0.2.2.1) rfl (decide_eq_true (congrArg Value.ref hc1_)) (by decide) (by decide) ?_
      refine XS.iconst X0.here hx rfl (hC e34_0.2.2.2) ?_
      exact kK
    exact own_rL X0 hx hlk hre (by simp) (hC e34_6.1) (w := (.int (1 : Int32))) rfl e0 (by decide) (by decide) ⟨congrArg (fun q => some (Value.int q)) (own_eqself hc1_ Fv1 Fv2 Tt1 Tt2).symm, N0, rfl⟩
  · refine jg s₁ mM 8 #[vR a, vR b, vU] [(.ref b)] (fun tT kK => ?_) ?_
    · refine Jvm.RoadKit.acmp (g := (mkF mM 2 #[vR a, vR b, vU] [(.ref b), (.ref a)])) X0 hx rfl rfl rfl (pc0 := 2) (pc' := 7) (same := false) rfl (hC e34_0.2.2.1) rfl (decide_eq_false fun q => hc1_ (Value.ref.inj q)) (by decide) (by decide) ?_
      refine XS.aloadN X0.here hx rfl (hC e34_6.2.1) rfl rfl ?_
      exact kK
    obtain ⟨T2_, X2_, e2_, st2_⟩ := instY X0 hx hZ hown (jk hw 162 rfl) e0 (Ins.self E2) (g := (mkF mM 8 #[vR a, vR b, vU] [(.ref b)])) rfl rfl (hC e34_6.2.2.1)
    refine own_fin st2_ ?_
    refine jg T2_ mM 15 #[vR a, vR b, vU] [(.ref b)] (fun tT kK => ?_) ?_
    · refine XS.ifNo X2_.here hx rfl (hC e34_6.2.2.2) rfl ((if0 _ _).trans (feq ((by decide) : ¬ ((1 : Int32) = (0 : Int32)))).1) ?_
      refine XS.aloadN X2_.here hx rfl (hC e34_14.1) rfl rfl ?_
      exact kK
    obtain ⟨T3_, X3_, e3_, st3_⟩ := castY X2_ hx hZ hown (jk hw 162 rfl) e2_ (Ins.self E2) (g := (mkF mM 15 #[vR a, vR b, vU] [(.ref b)])) rfl rfl (hC e34_14.2.1)
    refine own_fin st3_ ?_
    refine jg T3_ mM 19 #[vR a, vR b, vR b] [] (fun tT kK => ?_) ?_
    · refine XS.astoreN X3_.here hx rfl (hC e34_14.2.2.1) rfl rfl (l' := #[vR a, vR b, vR b]) rfl ?_
      exact kK
    obtain ⟨T4_, X4_, e4_, st4_⟩ := getS2 X3_ hx hZ hown (host := "") (Or.inl (jk hw 28 rfl)) Via.refl e3_ (own_StaKeep Oo Scs) (g := (mkF mM 19 #[vR a, vR b, vR b] [])) rfl (hC e34_14.2.2.2)
    refine own_fin st4_ ?_
    refine jg T4_ mM 26 #[vR a, vR b, vR b] [(.ref a)] (fun tT kK => ?_) ?_
    · refine XS.ifNo X4_.here hx rfl (hC e34_22.1) rfl ((if0 _ _).trans (feq (ncs : ¬ (cs = (0 : Int32)))).1) ?_
      refine XS.aloadN X4_.here hx rfl (hC e34_22.2.1) rfl rfl ?_
      exact kK
    refine jf X4_ hx hZ hown (jk hw 29 rfl) e4_ Fc1 (hC e34_22.2.2.1) fun T5_ X5_ e5_ => ?_
    refine jg T5_ mM 30 #[vR a, vR b, vR b] [(.ref b), (.int (0 : Int32))] (fun tT kK => ?_) ?_
    · refine XS.aloadN X5_.here hx rfl (hC e34_22.2.2.2) rfl rfl ?_
      exact kK
    refine jf X5_ hx hZ hown (jk hw 29 rfl) e5_ Fc2 (hC e34_30.1) fun T6_ X6_ e6_ => ?_
    refine jg T6_ mM 37 #[vR a, vR b, vR b] [(.ref a)] (fun tT kK => ?_) ?_
    · refine XS.icmpNo X6_.here hx rfl (hC e34_30.2.1) rfl (teq ((by decide) : (0 : Int32) = (0 : Int32))).2 ?_
      refine XS.aloadN X6_.here hx rfl (hC e34_30.2.2.1) rfl rfl ?_
      exact kK
    refine jf X6_ hx hZ hown (jk hw 30 rfl) e6_ Fv1 (hC e34_30.2.2.2) fun T7_ X7_ e7_ => ?_
    refine jg T7_ mM 41 #[vR a, vR b, vR b] [(.ref b), (.ref t)] (fun tT kK => ?_) ?_
    · refine XS.aloadN X7_.here hx rfl (hC e34_40.1) rfl rfl ?_
      exact kK
    refine jf X7_ hx hZ hown (jk hw 30 rfl) e7_ Fv2 (hC e34_40.2.1) fun T8_ X8_ e8_ => ?_
    refine jc X8_ hx hZ (y := jy19) hown (jk hw 163 rfl) (jk hw 164 rfl) (jk hw 33 rfl) (jk hw 165 rfl) (rm_leq lL Z a0 hw [] t t2 z f z2 g h0 n0 (Nat.le_trans Z0 K0.1) Tt1 Tt2) e8_ own_pd13 [(.ref t), (.ref t2)] [] (hC e34_40.2.2) rfl rfl (by rw [hml]; rfl) (by decide) 0 (Nat.le_of_eq rfl) (by decide) (by decide) (by decide : 0 + 0 ≤ _) (by decide : 0 + 0 ≤ _) fun vv9_ T9_ L9_ X9_ hQ9_ => ?_
    obtain ⟨rfl, N9_q, p9__0⟩ := hQ9_
    have N9_ := Fr.app N0 N9_q
    by_cases hc47_10_ : (own_eq z f z2 g) = (0 : Int32)
    · refine jg T9_ mM 55 #[vR a, vR b, vR b] [(.int (0 : Int32))] (fun tT kK => ?_) ?_
      · refine XS.ifYes X9_.here hx rfl (pc0 := 47) (pc' := 54) rfl (hC e34_47.1) rfl ((if0 _ _).trans (teq (hc47_10_ : (own_eq z f z2 g) = (0 : Int32))).1) (by decide) (by decide) ?_
        refine XS.iconst X9_.here hx rfl (hC e34_47.2.1) ?_
        exact kK
      exact own_rL X9_ hx hlk hre (by simp) (hC e34_47.2.2.1) (w := (.int (0 : Int32))) rfl p9__0 (by decide) (by decide) ⟨congrArg (fun q => some (Value.int q)) (hc47_10_).symm, N9_, rfl⟩
    · refine jg T9_ mM 55 #[vR a, vR b, vR b] [(.int (1 : Int32))] (fun tT kK => ?_) ?_
      · refine XS.ifNo X9_.here hx rfl (hC e34_47.1) rfl ((if0 _ _).trans (feq (hc47_10_ : ¬ ((own_eq z f z2 g) = (0 : Int32)))).1) ?_
        refine XS.iconst X9_.here hx rfl (hC e34_47.2.2.2) ?_
        refine XS.goto X9_.here hx rfl (pc0 := 51) (pc' := 55) rfl (hC d34_51) (by decide) (by decide) ?_
        exact kK
      exact own_rL X9_ hx hlk hre (by simp) (hC e34_47.2.2.1) (w := (.int (1 : Int32))) rfl p9__0 (by decide) (by decide) ⟨congrArg (fun q => some (Value.int q)) ((own_eq01 _ _ _ _).resolve_left hc47_10_).symm, N9_, rfl⟩
theorem e10_8 : jD10 8 (.aload_n 0, 1) ∧ jD10 9 (.ldc 7, 2) ∧ jD10 11 (.getfield 9, 3) ∧ jD10 14 (.putfield 9, 3) := by decide +kernel
theorem e10_17 : jD10 17 (.aload_n 0, 1) ∧ jD10 18 (.ldc 7, 2) ∧ jD10 20 (.getfield 15, 3) ∧ jD10 23 (.putfield 15, 3) := by decide +kernel
theorem d10_26 : jD10 26 (.return_, 1) := by decide +kernel
theorem own_ef_rm_e4 (mM : MethodId) (x0 : Addr) (x1 : Addr) (x2 : Int32) (x3 : Int32) : entryFrame mM #[(.ref x0), (.ref x1), (.int x2), (.int x3), .null] 6 = mkF mM 0 #[.val (.ref x0), .val (.ref x1), .val (.int x2), .val (.int x3), .val .null, .unset] [] := by first | (simp [entryFrame, mkF, argsToLocals, Value.category]; done) | rfl
def Q_rm_e4 (Z : State) (a : Addr) (c : Addr) (h0 : Heap) (n0 : Nat) (vV : Option Value) (hH : Heap) (lA : List Loc) : Prop := ∃ t' : Addr, vV = none ∧ Fr n0 lA ∧ (Keep h0 hH [a]) ∧ (jE0 Z hH a) ∧ (jF1 Z hH a (.ref t')) ∧ (jF0 Z hH a (.int (0 : Int32))) ∧ (own_T Z hH t' .byte (0 : Int32) (own_li []))
set_option maxRecDepth 65536 in
set_option maxHeartbeats 40000000 in
theorem rm_e4 (lL : Launch) (Z : State) (a0 : Array Value) (hw : own_H a0 Z) (ws : List Jvm.Cond) (a : Addr) (c : Addr) (h0 : Heap) (n0 : Nat) (Z0 : n0 ≤ h0.size) (Ea : jE0 Z h0 a) (Fv : jF1 Z h0 a .null) (Fc : jF0 Z h0 a (.int (0 : Int32))) (ga : n0 ≤ a) :
    MetFree lL jy10 (head1 (Jvm.Cond.code jy10 jdk_42_method_149_code 6 none :: ws) jr11) (fun aA uU => aA = #[(.ref a), (.ref c), (.int (0 : Int32)), (.int (0 : Int32)), .null] ∧ Z.Warmed39 uU.vm ∧ uU.heap = h0 ∧ CHv Z own_EL uU.vm h0 ∧ ∀ x ∈ ([a] : List Addr), Safe Z own_EL uU.vm h0 x) (fun _ _ _ _ _ => True) (fun _ uU oO uU' => ∃ vV lA, oO = .returned vV ∧ Q_rm_e4 Z a c h0 n0 vV uU'.heap lA ∧ CHr Z own_EL uU.vm uU.heap uU'.vm uU'.heap ∧ ReturnedEndW uU oO uU' lA jr11.cells jr11.slots) := by
  refine MetFree.of_bodySF (plainFor_of_name own_pn_java_lang_String) hisR ?_
  intro pP eE sS mM args below meth cC s₁ Bd hml0 hP hK
  obtain ⟨rfl, hZ, hh, hC0, hY0⟩ := hP
  have sY0 := hY0 a (List.mem_of_getElem? (i := 0) rfl)
  have hx := Bd.exec
  have hby := Bd.bytes
  have hC := @Jvm.hb _ _ hby
  have hml : cC.maxLocals = 6 := hml0
  have hown : sS.vm.findClass "java/lang/String" = some mM.cls := findClass_of_methodNamed Bd.named
  have hnm := (name_of_methodNamed Bd.named Bd.method).1
  have X0 : Stand pP lL eE jr11 (sS.setVm sS.vm) mM #[(.ref a), (.ref c), (.int (0 : Int32)), (.int (0 : Int32)), .null] below meth cC s₁ [] 0 0 := Stand.of_body Bd
  have hS0 : sS.Since sS.vm 0 := (State.WarmedH.refl sS).since 0
  have hk0 : 0 ≤ h0.size := Nat.zero_le _
  have CH0 : CHr Z own_EL sS.vm h0 sS.vm h0 := CHr.refl hC0
  have e0 : s₁.heap = h0 := by rw [← hh, Bd.state]; rfl
  have N0 := Fr.nil n0
  have K0 := Keep.refl h0 [a]
  show own_Fin pP eE below (fun tT oO => ∃ vV lA, oO = .returned vV ∧ Q_rm_e4 Z a c h0 n0 vV tT.heap lA ∧ CHr Z own_EL sS.vm sS.heap tT.vm tT.heap ∧ ReturnedEndW sS oO tT lA jr11.cells jr11.slots) (s₁.setTop (entryFrame mM #[(.ref a), (.ref c), (.int (0 : Int32)), (.int (0 : Int32)), .null] 6))
  refine own_fin (b := s₁.setTop (mkF mM 0 #[.val (.ref a), .val (.ref c), .val (.int (0 : Int32)), .val (.int (0 : Int32)), .val .null, .unset] [])) (fun tT kK => castTop (own_ef_rm_e4 mM a c (0 : Int32) (0 : Int32)) kK) ?_
  let ll1 : Array Slot := #[vR a, vR c, vI 0, vI 0, vN, vU]
  refine jg s₁ mM 1 ll1 [(.ref a)] (fun tT kK => ?_) ?_
  · refine XS.aloadN X0.here hx rfl (hC e10_0.1) rfl rfl ?_
    exact kK
  obtain ⟨T1_, X1_, e1_, st1_⟩ := initO X0 hx hZ hown (jk hw 55 rfl) (jk hw 56 rfl) (jk hw 57 rfl) e0 (g := (mkF mM 1 ll1 [(.ref a)])) rfl (by rw [hml]; rfl) rfl (hC e10_0.2.1) (by decide) (W := 0) (by show 2 * 0 + _ ≤ _; exact Nat.le_of_eq rfl) (by decide)
  refine own_fin st1_ ?_
  refine jg T1_ mM 9 ll1 [(.ref a)] (fun tT kK => ?_) ?_
  · refine XS.iloadN X1_.here hx rfl (hC e10_0.2.2.1) rfl ?_
    refine XS.ifNo X1_.here hx rfl (hC e10_0.2.2.2) rfl ((if0 _ _).trans (teq ((by decide) : (0 : Int32) = (0 : Int32))).2) ?_
    refine XS.aloadN X1_.here hx rfl (hC e10_8.1) rfl rfl ?_
    exact kK
  obtain ⟨a2_, T2_, h2_, k12_, b2_, kc2_, X2_, e2_, E2_, hS2_, hk2_, hZ, hown, Ea2_, Fc2_, Fv2_, Vb2_, la2_, lb2_, Cr2_, -, sfn2_, st2_⟩ := ldcCH X1_ hx hZ hown (jk hw 74 rfl) (own_wS hw) e1_ hS0 hk0 (own_EW hw) (EL := own_EL) (List.mem_of_getElem? (i := 1) rfl) CH0.1 (vs := []) (z := (0 : Int32)) ⟨by decide, by rfl⟩ (by decide) (by decide) (g := (mkF mM 9 ll1 [(.ref a)])) rfl (hC e10_8.2.1) (n := 0) (by decide) (by decide) (by decide) (by decide)
  have sf3_ := Cr2_.safe Ea.lt sY0
  have fc4_ := Ea.ext E2_
  have fc5_ := Fv.ext E2_
  have fc6_ := Fc.ext E2_
  have K2_ := K0.ext E2_
  have CH2_ := CH0.trans Cr2_
  have ne8_ := (sfn2_ a sf3_).2
  have Tb2_ : own_T Z h2_ b2_ .byte (0 : Int32) (own_li []) := own_at_T (xs := []) Vb2_
  refine own_fin st2_ ?_
  refine jf X2_ hx hZ hown (jk hw 30 rfl) e2_ Fv2_ (hC e10_8.2.2.1) fun T9_ X9_ e9_ => ?_
  obtain ⟨T10_, h10_, X10_, e10_, W10_, st10_⟩ := putF X9_ hx hZ hown (host := "") (Or.inl (jk hw 30 rfl)) Via.refl e9_ fc5_ fc4_ (Or.inr ⟨(jk hw 14 rfl), rfl, hnm⟩) (jk hw 12 rfl) (ty := (.array .byte)) (by decide) rfl rfl (g := (mkF mM 14 ll1 [(.ref b2_), (.ref a)])) rfl rfl (hC e10_8.2.2.2)
  have Fw10_ := fc5_.same W10_
  have fc11_ := fc4_.wr W10_
  have fc12_ := fc6_.other W10_ (Or.inr (js0 hw).symm)
  have fc16_ := Tb2_.other W10_ (Ne.symm ne8_)
  have sw10_ : Safe Z own_EL T2_.vm h2_ a := sf3_
  have Cs10_ : CHr Z own_EL T2_.vm h2_ T2_.vm h10_ := CHr.wr W10_ sw10_ CH2_.1
  have sf17_ := Safe.wr W10_ sw10_ CH2_.1 sf3_
  have CH10_ := CH2_.trans Cs10_
  have hk10_ := Nat.le_trans hk2_ Cs10_.2.1
  have K10_ := K2_.wr W10_ (Or.inl (List.mem_of_getElem? (i := 0) rfl))
  have N10_ := Fr.snoc X10_ N0 ga
  refine own_fin st10_ ?_
  refine jg T10_ mM 18 ll1 [(.ref a)] (fun tT kK => ?_) ?_
  · refine XS.aloadN X10_.here hx rfl (hC e10_17.1) rfl rfl ?_
    exact kK
  obtain ⟨a18_, T18_, h18_, k118_, b18_, kc18_, X18_, e18_, E18_, hS18_, hk18_, hZ, hown, Ea18_, Fc18_, Fv18_, Vb18_, la18_, lb18_, Cr18_, -, sfn18_, st18_⟩ := ldcCH X10_ hx hZ hown (jk hw 74 rfl) (own_wS hw) e10_ hS2_ hk10_ (own_EW hw) (EL := own_EL) (List.mem_of_getElem? (i := 1) rfl) CH10_.1 (vs := []) (z := (0 : Int32)) ⟨by decide, by rfl⟩ (by decide) (by decide) (g := (mkF mM 18 ll1 [(.ref a)])) rfl (hC e10_17.2.1) (n := 0) (by decide) (by decide) (by decide) (by decide)
  have sf19_ := Cr18_.safe fc11_.lt sf17_
  have fc20_ := fc11_.ext E18_
  have fc21_ := Fw10_.ext E18_
  have fc22_ := fc12_.ext E18_
  have fc26_ := fc16_.ext E18_
  have K18_ := K10_.ext E18_
  have CH18_ := CH10_.trans Cr18_
  have Tb18_ : own_T Z h18_ b18_ .byte (0 : Int32) (own_li []) := own_at_T (xs := []) Vb18_
  refine own_fin st18_ ?_
  refine jf X18_ hx hZ hown (jk hw 29 rfl) e18_ Fc18_ (hC e10_17.2.2.1) fun T29_ X29_ e29_ => ?_
  obtain ⟨T30_, h30_, X30_, e30_, W30_, st30_⟩ := putFN X29_ hx hZ hown (jk hw 29 rfl) Via.refl e29_ fc22_ fc20_ (Or.inr ⟨(jk hw 15 rfl), rfl, hnm⟩) (jk hw 12 rfl) (ty := .byte) (v' := (.int (0 : Int32))) (by decide) rfl (by first | exact fits_nar_byte _ | rfl) (g := (mkF mM 23 ll1 [(.int (0 : Int32)), (.ref a)])) rfl rfl (hC e10_17.2.2.2)
  have Fw30_ := fc22_.same W30_
  have fc31_ := fc20_.wr W30_
  have fc32_ := fc21_.other W30_ (Or.inr (js0 hw))
  have fc36_ := fc26_.other W30_ (Ne.symm ne8_)
  have sw30_ : Safe Z own_EL T18_.vm h18_ a := sf19_
  have Cs30_ : CHr Z own_EL T18_.vm h18_ T18_.vm h30_ := CHr.wr W30_ sw30_ CH18_.1
  have sf41_ := Safe.wr W30_ sw30_ CH18_.1 sf19_
  have CH30_ := CH18_.trans Cs30_
  have hk30_ := Nat.le_trans hk18_ Cs30_.2.1
  have K30_ := K18_.wr W30_ (Or.inl (List.mem_of_getElem? (i := 0) rfl))
  have N30_ := Fr.snoc X30_ N10_ ga
  refine own_fin st30_ ?_
  obtain ⟨fs, hr, hrun, hended, hE1, hE2, hE3, hE4⟩ := X30_.leaveW hS18_ (own_hk e30_ hk30_) (v := none) (fun _ => rfl)
  refine ⟨_, _, ?_, hrun, hended, _, _, rfl, ?_, own_CHe (T := T30_) (vm1 := T30_.vm) hh e30_ (CH30_.trans (CHv.at X30_ hZ (own_EW hw) CH30_.1)), hE1, hE2, hE3, hE4.mono (by decide) (by decide)⟩
  · show Steps pP.tables eE below (T30_.setTop (mkF mM 26 ll1 [])) _
    exact X30_.returnOut hx Bd.returns (hC d10_26) hr
  · show Q_rm_e4 Z a c h0 n0 _ T30_.heap _
    rw [e30_]
    exact ⟨b2_, rfl, N30_, K30_, fc31_, fc32_, Fw30_, fc36_⟩
theorem own_ef_rm_e0 (mM : MethodId) (x0 : Addr) (x1 : Addr) : entryFrame mM #[(.ref x0), (.ref x1)] 2 = mkF mM 0 #[.val (.ref x0), .val (.ref x1)] [] := by first | (simp [entryFrame, mkF, argsToLocals, Value.category]; done) | rfl
def Q_rm_e0 (Z : State) (a : Addr) (c : Addr) (f : Int32 → Int32) (h0 : Heap) (n0 : Nat) (vV : Option Value) (hH : Heap) (lA : List Loc) : Prop := ∃ t' : Addr, vV = none ∧ Fr n0 lA ∧ (Keep h0 hH [a]) ∧ (jE0 Z hH a) ∧ (jF1 Z hH a (.ref t')) ∧ (jF0 Z hH a (.int (0 : Int32))) ∧ (own_T Z hH t' .byte (0 : Int32) (own_li []))
set_option maxRecDepth 65536 in
set_option maxHeartbeats 40000000 in
theorem rm_e0 (lL : Launch) (Z : State) (a0 : Array Value) (hw : own_H a0 Z) (ws : List Jvm.Cond) (a : Addr) (c : Addr) (f : Int32 → Int32) (h0 : Heap) (n0 : Nat) (Z0 : n0 ≤ h0.size) (Ea : jE0 Z h0 a) (Fv : jF1 Z h0 a .null) (Fc : jF0 Z h0 a (.int (0 : Int32))) (ga : n0 ≤ a) (Tc : own_T Z h0 c .char (0 : Int32) f) (nca : c ≠ a) :
    MetFree lL jy11 (head1 (Jvm.Cond.code jy11 jdk_42_method_3_code 2 none :: ws) jr12) (fun aA uU => aA = #[(.ref a), (.ref c)] ∧ Z.Warmed39 uU.vm ∧ uU.heap = h0 ∧ CHv Z own_EL uU.vm h0 ∧ ∀ x ∈ ([a] : List Addr), Safe Z own_EL uU.vm h0 x) (fun _ _ _ _ _ => True) (fun _ uU oO uU' => ∃ vV lA, oO = .returned vV ∧ Q_rm_e0 Z a c f h0 n0 vV uU'.heap lA ∧ CHr Z own_EL uU.vm uU.heap uU'.vm uU'.heap ∧ ReturnedEndW uU oO uU' lA jr12.cells jr12.slots) := by
  refine MetFree.of_bodySF (plainFor_of_name own_pn_java_lang_String) hisR ?_
  intro pP eE sS mM args below meth cC s₁ Bd hml0 hP hK
  obtain ⟨rfl, hZ, hh, hC0, hY0⟩ := hP
  have sY0 := hY0 a (List.mem_of_getElem? (i := 0) rfl)
  have hx := Bd.exec
  have hby := Bd.bytes
  have hC := @Jvm.hb _ _ hby
  have hml : cC.maxLocals = 2 := hml0
  have hown : sS.vm.findClass "java/lang/String" = some mM.cls := findClass_of_methodNamed Bd.named
  have hnm := (name_of_methodNamed Bd.named Bd.method).1
  have X0 : Stand pP lL eE jr12 (sS.setVm sS.vm) mM #[(.ref a), (.ref c)] below meth cC s₁ [] 0 0 := Stand.of_body Bd
  have hS0 : sS.Since sS.vm 0 := (State.WarmedH.refl sS).since 0
  have hk0 : 0 ≤ h0.size := Nat.zero_le _
  have CH0 : CHr Z own_EL sS.vm h0 sS.vm h0 := CHr.refl hC0
  have e0 : s₁.heap = h0 := by rw [← hh, Bd.state]; rfl
  have N0 := Fr.nil n0
  have K0 := Keep.refl h0 [a]
  show own_Fin pP eE below (fun tT oO => ∃ vV lA, oO = .returned vV ∧ Q_rm_e0 Z a c f h0 n0 vV tT.heap lA ∧ CHr Z own_EL sS.vm sS.heap tT.vm tT.heap ∧ ReturnedEndW sS oO tT lA jr12.cells jr12.slots) (s₁.setTop (entryFrame mM #[(.ref a), (.ref c)] 2))
  refine own_fin (b := s₁.setTop (mkF mM 0 #[.val (.ref a), .val (.ref c)] [])) (fun tT kK => castTop (own_ef_rm_e0 mM a c) kK) ?_
  refine jg s₁ mM 4 #[vR a, vR c] [(.ref c), (.int (0 : Int32)), (.ref c), (.ref a)] (fun tT kK => ?_) ?_
  · refine XS.aloadN X0.here hx rfl (hC e9_0.1) rfl rfl ?_
    refine XS.aloadN X0.here hx rfl (hC e9_0.2.1) rfl rfl ?_
    refine XS.iconst X0.here hx rfl (hC e9_0.2.2.1) ?_
    refine XS.aloadN X0.here hx rfl (hC e9_0.2.2.2) rfl rfl ?_
    exact kK
  obtain ⟨cl1_, Ar1_, Sz1_, Nn1_, -⟩ := id Tc
  refine jg s₁ mM 6 #[vR a, vR c] [.null, (.int (0 : Int32)), (.int (0 : Int32)), (.ref c), (.ref a)] (fun tT kK => ?_) ?_
  · refine X0.arraylength hx (own_rw e0 Ar1_.1) (State.isArrayOf_alike hZ.alike Ar1_.2.1) (g := (mkF mM 4 #[vR a, vR c] [(.ref c), (.int (0 : Int32)), (.ref c), (.ref a)])) rfl rfl (hC e9_4.1) _ ?_
    rw [len_of Sz1_ Nn1_]
    refine XS.aconstNull X0.here hx rfl (hC e9_4.2.1) ?_
    exact kK
  obtain ⟨_, _, ⟨T2_, L2_, k2_, n2_⟩, -, Xa2_, hSa2_, hga2_, ⟨Lc2_, hQ2_, l2_, y2_, z2_, hC2_⟩, st2_⟩ := X0.specialBackS hx (y := jy10) rfl hown (jm hZ hw 51 rfl) (jm hZ hw 52 rfl) (jm hZ hw 54 rfl) (by decide) (own_backSY (W := 0) (rm_e4 lL Z a0 hw [] a c h0 n0 (Nat.le_trans Z0 K0.1) Ea Fv Fc ga) hZ (jk hw 54 rfl) (jk hw 11 rfl) (by decide) (by decide) (own_EW hw) CH0.1 (own_yS Ea.lt sY0 own_y0)) (g := (mkF mM 6 #[vR a, vR c] [.null, (.int (0 : Int32)), (.int (0 : Int32)), (.ref c), (.ref a)])) rfl (by rw [hml]; rfl) (Steps.refl _) (a := a) (argsL := [(.ref c), (.int (0 : Int32)), (.int (0 : Int32)), .null]) (rest := []) (lenOf own_pd8 rfl) rfl (by show 2 * 0 + _ ≤ _; exact Nat.le_of_eq rfl) (hC e9_4.2.2) (fun _ _ => ⟨rfl, e0, (by decide : 0 + 4 ≤ _), (by decide : 0 + 8 ≤ _)⟩)
  dsimp only [Pt.U, Pt.locs, Pt.cells, Pt.slots] at Xa2_ hSa2_ hga2_ l2_ y2_ z2_ st2_ hQ2_ hC2_
  subst l2_ y2_ z2_
  obtain ⟨X2_, hS2_, hZ, hown⟩ := rebS hS0 (own_hk e0 hk0) Xa2_ hSa2_ hga2_ hZ hown
  obtain ⟨t'_2_, rfl, N2_q, p2__0, p2__1, p2__2, p2__3, p2__4⟩ := hQ2_
  have N2_ := Fr.app N0 N2_q
  have sf3_ := hC2_.safe Ea.lt sY0
  have K2_ := K0.trans p2__0 (allS (Or.inl (List.mem_of_getElem? (i := 0) rfl)) all0)
  have CH2_ := CH0.trans hC2_
  have hk2_ : T2_.heap.size ≤ T2_.heap.size := Nat.le_refl _
  refine own_fin (fun tT kK => st2_.trans kK) ?_
  obtain ⟨fs, hr, hrun, hended, hE1, hE2, hE3, hE4⟩ := X2_.leaveW hS2_ (own_hk rfl hk2_) (v := none) (fun _ => rfl)
  refine ⟨_, _, ?_, hrun, hended, _, _, rfl, ?_, own_CHe (T := T2_) (vm1 := T2_.vm) hh rfl (CH2_.trans (CHv.at X2_ hZ (own_EW hw) CH2_.1)), hE1, hE2, hE3, hE4.mono (by decide) (by decide)⟩
  · show Steps pP.tables eE below (T2_.setTop (mkF mM 9 #[vR a, vR c] [])) _
    exact X2_.returnOut hx Bd.returns (hC d9_9) hr
  · show Q_rm_e0 Z a c f h0 n0 _ T2_.heap _
    exact ⟨t'_2_, rfl, N2_, K2_, p2__1, p2__2, p2__3, p2__4⟩
theorem own_neT {Z : State} {h : Heap} {x b : Addr} {C : String} {n : Nat} {a0 : Array Value} {ty : FieldType} {z : Int32} {f : Int32 → Int32} (E : Exa Z h x C) (F : own_T Z h b ty z f) (w : (Jvm.Cond.instantiable C n).before a0 Z = true) : x ≠ b := fun q => by
  subst q
  obtain ⟨c1, k1, e1, f1, g1, -⟩ := E
  obtain ⟨c2, ⟨e2, hA, -⟩, -⟩ := F
  cases e1.symm.trans e2
  obtain ⟨t', k', i1, i2, i3, -⟩ := Cond.instantiable_spec w
  cases f1.symm.trans i1
  cases g1.symm.trans i2
  obtain ⟨-, kk, hk, comp, hkind⟩ := hA
  rw [g1] at hk; cases hk; rw [i3] at hkind; cases hkind
def own_idc (x k : Int32) : Int32 := own_ch (own_li own_al ((((x.toUInt32 >>> (((7 : Int32) * k) &&& 31).toUInt32).toInt32) &&& (127 : Int32)) % (66 : Int32)))
def own_il (x : Int32) : Int32 := ((1 : Int32) + (((x.toUInt32 >>> ((14 : Int32) &&& 31).toUInt32).toInt32) &&& (1 : Int32)))
def own_okc (c : Int32) : Int32 := (if c < (65 : Int32) then (if c < (97 : Int32) then (if c < (48 : Int32) then (if c = (46 : Int32) then (1 : Int32) else (if c = (95 : Int32) then (1 : Int32) else (if c = (58 : Int32) then (1 : Int32) else (if c = (45 : Int32) then (1 : Int32) else (0 : Int32))))) else (if (57 : Int32) < c then (if c = (46 : Int32) then (1 : Int32) else (if c = (95 : Int32) then (1 : Int32) else (if c = (58 : Int32) then (1 : Int32) else (if c = (45 : Int32) then (1 : Int32) else (0 : Int32))))) else (1 : Int32))) else (if (122 : Int32) < c then (if c < (48 : Int32) then (if c = (46 : Int32) then (1 : Int32) else (if c = (95 : Int32) then (1 : Int32) else (if c = (58 : Int32) then (1 : Int32) else (if c = (45 : Int32) then (1 : Int32) else (0 : Int32))))) else (if (57 : Int32) < c then (if c = (46 : Int32) then (1 : Int32) else (if c = (95 : Int32) then (1 : Int32) else (if c = (58 : Int32) then (1 : Int32) else (if c = (45 : Int32) then (1 : Int32) else (0 : Int32))))) else (1 : Int32))) else (1 : Int32))) else (if (90 : Int32) < c then (if c < (97 : Int32) then (if c < (48 : Int32) then (if c = (46 : Int32) then (1 : Int32) else (if c = (95 : Int32) then (1 : Int32) else (if c = (58 : Int32) then (1 : Int32) else (if c = (45 : Int32) then (1 : Int32) else (0 : Int32))))) else (if (57 : Int32) < c then (if c = (46 : Int32) then (1 : Int32) else (if c = (95 : Int32) then (1 : Int32) else (if c = (58 : Int32) then (1 : Int32) else (if c = (45 : Int32) then (1 : Int32) else (0 : Int32))))) else (1 : Int32))) else (if (122 : Int32) < c then (if c < (48 : Int32) then (if c = (46 : Int32) then (1 : Int32) else (if c = (95 : Int32) then (1 : Int32) else (if c = (58 : Int32) then (1 : Int32) else (if c = (45 : Int32) then (1 : Int32) else (0 : Int32))))) else (if (57 : Int32) < c then (if c = (46 : Int32) then (1 : Int32) else (if c = (95 : Int32) then (1 : Int32) else (if c = (58 : Int32) then (1 : Int32) else (if c = (45 : Int32) then (1 : Int32) else (0 : Int32))))) else (1 : Int32))) else (1 : Int32))) else (1 : Int32)))
def own_pc (y k : Int32) : Int32 := (if (((y.toUInt32 >>> (((8 : Int32) * k) &&& 31).toUInt32).toInt32) &&& (255 : Int32)) = (9 : Int32) then ((((y.toUInt32 >>> (((8 : Int32) * k) &&& 31).toUInt32).toInt32) &&& (255 : Int32)) + (2 : Int32)) else (if (((y.toUInt32 >>> (((8 : Int32) * k) &&& 31).toUInt32).toInt32) &&& (255 : Int32)) = (10 : Int32) then ((((y.toUInt32 >>> (((8 : Int32) * k) &&& 31).toUInt32).toInt32) &&& (255 : Int32)) + (2 : Int32)) else (((y.toUInt32 >>> (((8 : Int32) * k) &&& 31).toUInt32).toInt32) &&& (255 : Int32))))
def own_pl (y : Int32) : Int32 := ((((y.toUInt32 >>> ((16 : Int32) &&& 31).toUInt32).toInt32) &&& (3 : Int32)) % (3 : Int32))
def own_is (z : Int32) (f : Int32 → Int32) (n c0 c1 : Int32) : Prop := z = n ∧ (0 < n.toInt → f (0 : Int32) = c0.toInt8.toInt32) ∧ (1 < n.toInt → f (1 : Int32) = c1.toInt8.toInt32)
theorem own_ix (y : Int32) : ¬ (((y &&& (127 : Int32)) % (66 : Int32)) < (0 : Int32)) ∧ ((y &&& (127 : Int32)) % (66 : Int32)) < (66 : Int32) := by
  have m := c_mask y (127 : Int32) 7 (by decide) (by decide)
  have e66 : (66 : Int32).toInt = 66 := rfl
  have e0 : (0 : Int32).toInt = 0 := rfl
  have q := (c_iremV (y &&& (127 : Int32)) (66 : Int32)).1 (by omega) (by omega)
  rw [Int32.lt_iff_toInt_lt, Int32.lt_iff_toInt_lt]
  omega
theorem own_ncc (x : Int32) : nar .char (own_ch x) = own_ch x := own_nch (own_chb2 x).1 (by have := (own_chb2 x).2; omega)
theorem own_al66 : ∀ n : Fin 66, own_okc (own_ch (own_li own_al (Int32.ofNat n.val))) = 1 ∧ own_ch ((own_ch (own_li own_al (Int32.ofNat n.val))).toInt8.toInt32) = own_ch (own_li own_al (Int32.ofNat n.val)) := by decide +kernel
theorem own_ix66 (y : Int32) : ∃ n : Fin 66, ((y &&& (127 : Int32)) % (66 : Int32)) = Int32.ofNat n.val := by
  have h := own_ix y
  rw [Int32.lt_iff_toInt_lt, Int32.lt_iff_toInt_lt, show (66 : Int32).toInt = 66 from rfl, show (0 : Int32).toInt = 0 from rfl] at h
  obtain ⟨n, hn⟩ := Int.eq_ofNat_of_zero_le (Int.not_lt.mp h.1)
  refine ⟨⟨n, by omega⟩, Int32.toInt_inj.mp ?_⟩
  rw [hn, Int32.toInt_ofNat_of_lt (by omega)]
theorem own_idok (x k : Int32) : own_okc (own_idc x k) = 1 ∧ own_ch ((own_idc x k).toInt8.toInt32) = own_idc x k := by
  obtain ⟨n, hn⟩ := own_ix66 ((x.toUInt32 >>> (((7 : Int32) * k) &&& 31).toUInt32).toInt32)
  unfold own_idc
  rw [hn]
  exact own_al66 n
theorem own_idb (x k : Int32) : 0 ≤ (own_idc x k).toInt ∧ (own_idc x k).toInt ≤ 255 := own_chb2 _
theorem own_il12 (x : Int32) : own_il x = 1 ∨ own_il x = 2 := by
  have m := c_mask ((x.toUInt32 >>> ((14 : Int32) &&& 31).toUInt32).toInt32) (1 : Int32) 1 (by decide) (by decide)
  have a := c_iadd (1 : Int32) (((x.toUInt32 >>> ((14 : Int32) &&& 31).toUInt32).toInt32) &&& (1 : Int32))
  have r := rng32 (own_il x)
  have e1 : (1 : Int32).toInt = 1 := rfl
  have e : (own_il x).toInt = 1 ∨ (own_il x).toInt = 2 := by
    have e2 : own_il x = (1 : Int32) + (((x.toUInt32 >>> ((14 : Int32) &&& 31).toUInt32).toInt32) &&& (1 : Int32)) := rfl
    rw [e2] at r ⊢
    omega
  rcases e with e | e
  · exact Or.inl (Int32.toInt_inj.mp e)
  · exact Or.inr (Int32.toInt_inj.mp e)
theorem own_pcb (y k : Int32) : 0 ≤ (own_pc y k).toInt ∧ (own_pc y k).toInt ≤ 255 ∧ (own_pc y k).toInt ≠ 9 ∧ (own_pc y k).toInt ≠ 10 := by
  have m := c_mask ((y.toUInt32 >>> (((8 : Int32) * k) &&& 31).toUInt32).toInt32) (255 : Int32) 8 (by decide) (by decide)
  have e9 : (9 : Int32).toInt = 9 := rfl
  have e10 : (10 : Int32).toInt = 10 := rfl
  unfold own_pc
  generalize (((y.toUInt32 >>> (((8 : Int32) * k) &&& 31).toUInt32).toInt32) &&& (255 : Int32)) = c at *
  have e2 : (2 : Int32).toInt = 2 := rfl
  split
  · next h => rw [h]; decide
  · next h =>
    split
    · next h' => rw [h']; decide
    · next h' =>
      have n9 : c.toInt ≠ 9 := fun q => h (Int32.toInt_inj.mp (q.trans e9.symm))
      have n10 : c.toInt ≠ 10 := fun q => h' (Int32.toInt_inj.mp (q.trans e10.symm))
      omega
theorem own_pcr (y k : Int32) : nar .char ((own_pc y k).toUInt32.toUInt16.toUInt32.toInt32) = own_pc y k := by
  have b := own_pcb y k
  rw [own_i2c b.1 (by omega), own_nch b.1 (by omega)]
theorem own_pl012 (y : Int32) : own_pl y = 0 ∨ own_pl y = 1 ∨ own_pl y = 2 := by
  have m := c_mask ((y.toUInt32 >>> ((16 : Int32) &&& 31).toUInt32).toInt32) (3 : Int32) 2 (by decide) (by decide)
  have e3 : (3 : Int32).toInt = 3 := rfl
  have q := (c_iremV (((y.toUInt32 >>> ((16 : Int32) &&& 31).toUInt32).toInt32) &&& (3 : Int32)) (3 : Int32)).1 (by omega) (by omega)
  have e : (own_pl y).toInt = 0 ∨ (own_pl y).toInt = 1 ∨ (own_pl y).toInt = 2 := by
    have e2 : own_pl y = (((y.toUInt32 >>> ((16 : Int32) &&& 31).toUInt32).toInt32) &&& (3 : Int32)) % (3 : Int32) := rfl
    rw [e2]; omega
  rcases e with e | e | e
  · exact Or.inl (Int32.toInt_inj.mp e)
  · exact Or.inr (Or.inl (Int32.toInt_inj.mp e))
  · exact Or.inr (Or.inr (Int32.toInt_inj.mp e))
theorem own_b8 {c : Int32} (h : 0 ≤ c.toInt ∧ c.toInt ≤ 255) : own_ch (c.toInt8.toInt32) = c := by
  apply Int32.toInt_inj.mp
  have m := c_mask (c.toInt8.toInt32) (255 : Int32) 8 (by decide) (by decide)
  have q := c_i2b c
  show (c.toInt8.toInt32 &&& (255 : Int32)).toInt = c.toInt
  omega
theorem own_b8i {c d : Int32} (hc : 0 ≤ c.toInt ∧ c.toInt ≤ 255) (hd : 0 ≤ d.toInt ∧ d.toInt ≤ 255) : (c.toInt8.toInt32 = d.toInt8.toInt32) ↔ c = d := ⟨fun h => by rw [← own_b8 hc, ← own_b8 hd, h], fun h => by rw [h]⟩
theorem own_s1 {x c0 c1 : Int32} {n : Int32} (h : n = 1) (hc : 0 ≤ c0.toInt ∧ c0.toInt ≤ 255) : own_is (1 : Int32) (fun j => ((own_up (fun _ => (0 : Int32)) (0 : Int32) (nar .char c0)) j).toInt8.toInt32) n c0 c1 := by
  refine ⟨h.symm, fun _ => ?_, fun q => ?_⟩
  · show (own_up _ _ _ (0 : Int32)).toInt8.toInt32 = _
    unfold own_up; rw [if_pos rfl, own_nch hc.1 (by omega)]
  · rw [h] at q; exact absurd q (by decide)
theorem own_s2 {c0 c1 : Int32} {n : Int32} (h : n = 2) (hc : 0 ≤ c0.toInt ∧ c0.toInt ≤ 255) (hd : 0 ≤ c1.toInt ∧ c1.toInt ≤ 255) : own_is (2 : Int32) (fun j => ((own_up (own_up (fun _ => (0 : Int32)) (0 : Int32) (nar .char c0)) (1 : Int32) (nar .char c1)) j).toInt8.toInt32) n c0 c1 := by
  refine ⟨h.symm, fun _ => ?_, fun _ => ?_⟩
  · show (own_up _ _ _ (0 : Int32)).toInt8.toInt32 = _
    unfold own_up; rw [if_neg (by decide), if_pos rfl, own_nch hc.1 (by omega)]
  · show (own_up _ _ _ (1 : Int32)).toInt8.toInt32 = _
    unfold own_up; rw [if_pos rfl, own_nch hd.1 (by omega)]
theorem own_s0 {f : Int32 → Int32} {n c0 c1 : Int32} (h : n = 0) : own_is (0 : Int32) f n c0 c1 := by
  refine ⟨h.symm, fun q => ?_, fun q => ?_⟩ <;> (rw [h] at q; exact absurd q (by decide))
def own_v (n c0 c1 m d0 d1 : Int32) : Int32 := if n = m then (if n = (0 : Int32) then (1 : Int32) else (if c0 = d0 then (if n = (1 : Int32) then (1 : Int32) else (if c1 = d1 then (1 : Int32) else (0 : Int32))) else (0 : Int32))) else (0 : Int32)
theorem own_isEq {z z' : Int32} {f g : Int32 → Int32} {n c0 c1 m d0 d1 : Int32} (A : own_is z f n c0 c1) (B : own_is z' g m d0 d1) (hn : n = 0 ∨ n = 1 ∨ n = 2) (hc0 : 0 ≤ c0.toInt ∧ c0.toInt ≤ 255) (hc1 : 0 ≤ c1.toInt ∧ c1.toInt ≤ 255) (hd0 : 0 ≤ d0.toInt ∧ d0.toInt ≤ 255) (hd1 : 0 ≤ d1.toInt ∧ d1.toInt ≤ 255) : own_eq z f z' g = own_v n c0 c1 m d0 d1 := by
  obtain ⟨rfl, A0, A1⟩ := A
  obtain ⟨rfl, B0, B1⟩ := B
  unfold own_eq own_v
  by_cases h : z = z'
  · subst h
    rw [if_pos rfl, if_pos rfl]
    rcases hn with rfl | rfl | rfl
    · rfl
    · have a0 := A0 (by decide)
      have b0 := B0 (by decide)
      show (if f (Int32.ofNat 0) = g (Int32.ofNat 0) then own_eqn f g 0 1 else 0) = _
      have e : (f (Int32.ofNat 0) = g (Int32.ofNat 0)) ↔ c0 = d0 := by
        rw [show Int32.ofNat 0 = (0 : Int32) from rfl, a0, b0]; exact own_b8i hc0 hd0
      rw [if_neg (show ¬ (1 : Int32) = 0 by decide)]
      by_cases q : c0 = d0
      · rw [if_pos (e.mpr q), if_pos q, if_pos rfl]; rfl
      · rw [if_neg (fun w => q (e.mp w)), if_neg q]
    · have a0 := A0 (by decide)
      have b0 := B0 (by decide)
      have a1 := A1 (by decide)
      have b1 := B1 (by decide)
      show (if f (Int32.ofNat 0) = g (Int32.ofNat 0) then (if f (Int32.ofNat 1) = g (Int32.ofNat 1) then own_eqn f g 0 2 else 0) else 0) = _
      have e : (f (Int32.ofNat 0) = g (Int32.ofNat 0)) ↔ c0 = d0 := by
        rw [show Int32.ofNat 0 = (0 : Int32) from rfl, a0, b0]; exact own_b8i hc0 hd0
      have e1 : (f (Int32.ofNat 1) = g (Int32.ofNat 1)) ↔ c1 = d1 := by
        rw [show Int32.ofNat 1 = (1 : Int32) from rfl, a1, b1]; exact own_b8i hc1 hd1
      rw [if_neg (show ¬ (2 : Int32) = 0 by decide)]
      by_cases q : c0 = d0
      · rw [if_pos (e.mpr q), if_pos q, if_neg (show ¬ (2 : Int32) = 1 by decide)]
        by_cases q1 : c1 = d1
        · rw [if_pos (e1.mpr q1), if_pos q1]; rfl
        · rw [if_neg (fun w => q1 (e1.mp w)), if_neg q1]
      · rw [if_neg (fun w => q (e.mp w)), if_neg q]
  · rw [if_neg h, if_neg h]
theorem own_fdm {z : Int32} {f : Int32 → Int32} {n c0 c1 b : Int32} (A : own_is z f n c0 c1) (hn : n = 0 ∨ n = 1 ∨ n = 2) (h0 : c0.toInt8.toInt32 ≠ b) (h1 : c1.toInt8.toInt32 ≠ b) : own_fd f b z.toNatClampNeg 0 < (0 : Int32) := by
  obtain ⟨rfl, A0, A1⟩ := A
  rcases hn with rfl | rfl | rfl
  · exact (by decide : (-1 : Int32) < 0)
  · have a0 : f (Int32.ofNat 0) = c0.toInt8.toInt32 := A0 (by decide)
    show (if f (Int32.ofNat 0) = b then Int32.ofNat 0 else own_fd f b 0 1) < 0
    rw [if_neg (fun w => h0 (a0.symm.trans w))]; exact (by decide : (-1 : Int32) < 0)
  · have a0 : f (Int32.ofNat 0) = c0.toInt8.toInt32 := A0 (by decide)
    have a1 : f (Int32.ofNat 1) = c1.toInt8.toInt32 := A1 (by decide)
    show (if f (Int32.ofNat 0) = b then Int32.ofNat 0 else (if f (Int32.ofNat 1) = b then Int32.ofNat 1 else own_fd f b 0 2)) < 0
    rw [if_neg (fun w => h0 (a0.symm.trans w)), if_neg (fun w => h1 (a1.symm.trans w))]; exact (by decide : (-1 : Int32) < 0)
theorem own_pn9 (y k p : Int32) (hp : p = 9 ∨ p = 10) : (own_pc y k).toInt8.toInt32 ≠ p.toInt8.toInt32 := fun q => by
  have b := own_pcb y k
  have : own_pc y k = p := by
    have hb : 0 ≤ p.toInt ∧ p.toInt ≤ 255 := by rcases hp with rfl | rfl <;> decide
    exact (own_b8i ⟨b.1, b.2.1⟩ hb).mp q
  rw [this] at b
  rcases hp with rfl | rfl
  · exact b.2.2.1 rfl
  · exact b.2.2.2 rfl
theorem own_lt2 (x : Int32) : own_ch x < (2048 : Int32) ∧ own_ch x < (65536 : Int32) := by
  have b := own_chb2 x
  rw [Int32.lt_iff_toInt_lt, Int32.lt_iff_toInt_lt, show (2048 : Int32).toInt = 2048 from rfl, show (65536 : Int32).toInt = 65536 from rfl]; omega
theorem e2_0 : jD21 0 (.ldc 7, 2) ∧ jD21 2 (.astore_n 2, 1) ∧ jD21 3 (.iload_n 0, 1) ∧ jD21 4 (.bipush 7, 2) := by decide +kernel
theorem e2_6 : jD21 6 (.iload_n 1, 1) ∧ jD21 7 (.imul, 1) ∧ jD21 8 (.iushr, 1) ∧ jD21 9 (.bipush 127, 2) := by decide +kernel
theorem e2_11 : jD21 11 (.iand, 1) ∧ jD21 12 (.bipush 66, 2) ∧ jD21 14 (.irem, 1) ∧ jD21 15 (.istore_n 3, 1) := by decide +kernel
theorem e2_16 : jD21 16 (.aload_n 2, 1) ∧ jD21 17 (.iload_n 3, 1) ∧ jD21 18 (.invokevirtual 9, 3) := by decide +kernel
theorem own_pd14 : parseMethodDescriptor "(I)C" = some ⟨[.int], some .char⟩ := by decide +kernel
theorem d2_21 : jD21 21 (.ireturn, 1) := by decide +kernel
theorem own_pn_com_example_waldrapp_waldrapp_IntentEqualsPinLaw : plainName "com/example/waldrapp/waldrapp/IntentEqualsPinLaw" = true := by first | (simp [plainName, overriddenIn]; done) | decide +kernel
theorem own_ef_rm_idc (mM : MethodId) (x0 : Int32) (x1 : Int32) : entryFrame mM #[(.int x0), (.int x1)] 4 = mkF mM 0 #[.val (.int x0), .val (.int x1), .unset, .unset] [] := by first | (simp [entryFrame, mkF, argsToLocals, Value.category]; done) | rfl
def Q_rm_idc (Z : State) (x : Int32) (k : Int32) (cs : Int32) (fv : Value) (h0 : Heap) (n0 : Nat) (vV : Option Value) (hH : Heap) (lA : List Loc) : Prop := vV = some (.int (own_idc x k)) ∧ Fr n0 lA ∧ (Keep h0 hH [])
set_option maxRecDepth 65536 in
set_option maxHeartbeats 40000000 in
theorem rm_idc (lL : Launch) (Z : State) (a0 : Array Value) (hw : own_H a0 Z) (ws : List Jvm.Cond) (x : Int32) (k : Int32) (cs : Int32) (fv : Value) (h0 : Heap) (n0 : Nat) (Z0 : n0 ≤ h0.size) (Oo : Old Z n0 h0) (Scs : Sta Z Z.heap "java/lang/String" "COMPACT_STRINGS" "Z" (.int cs)) (ncs : ¬ (cs = (0 : Int32))) (Sfv : Sta Z Z.heap "jdk/internal/util/Preconditions" "SIOOBE_FORMATTER" "Ljava/util/function/BiFunction;" fv) (rfv : fv.isRef = true) :
    MetFree lL jy21 (head1 (Jvm.Cond.code jy21 method_2_code 4 (some .char) :: ws) jr13) (fun aA uU => aA = #[(.int x), (.int k)] ∧ Z.Warmed39 uU.vm ∧ uU.heap = h0 ∧ CHv Z own_EL uU.vm h0 ∧ ∀ x ∈ ([] : List Addr), Safe Z own_EL uU.vm h0 x) (fun _ _ _ _ _ => True) (fun _ uU oO uU' => ∃ vV lA, oO = .returned vV ∧ Q_rm_idc Z x k cs fv h0 n0 vV uU'.heap lA ∧ CHr Z own_EL uU.vm uU.heap uU'.vm uU'.heap ∧ ReturnedEndW uU oO uU' lA jr13.cells jr13.slots) := by
  refine MetFree.of_bodySF (plainFor_of_name own_pn_com_example_waldrapp_waldrapp_IntentEqualsPinLaw) hisR ?_
  intro pP eE sS mM args below meth cC s₁ Bd hml0 hP hK
  obtain ⟨rfl, hZ, hh, hC0, hY0⟩ := hP
  have hx := Bd.exec
  have hby := Bd.bytes
  have hC := @Jvm.hb _ _ hby
  have hml : cC.maxLocals = 4 := hml0
  have hown : sS.vm.findClass "com/example/waldrapp/waldrapp/IntentEqualsPinLaw" = some mM.cls := findClass_of_methodNamed Bd.named
  have hnm := (name_of_methodNamed Bd.named Bd.method).1
  have X0 : Stand pP lL eE jr13 (sS.setVm sS.vm) mM #[(.int x), (.int k)] below meth cC s₁ [] 0 0 := Stand.of_body Bd
  have hS0 : sS.Since sS.vm 0 := (State.WarmedH.refl sS).since 0
  have hk0 : 0 ≤ h0.size := Nat.zero_le _
  have CH0 : CHr Z own_EL sS.vm h0 sS.vm h0 := CHr.refl hC0
  have e0 : s₁.heap = h0 := by rw [← hh, Bd.state]; rfl
  have N0 := Fr.nil n0
  have K0 := Keep.refl h0 ([] : List Addr)
  show own_Fin pP eE below (fun tT oO => ∃ vV lA, oO = .returned vV ∧ Q_rm_idc Z x k cs fv h0 n0 vV tT.heap lA ∧ CHr Z own_EL sS.vm sS.heap tT.vm tT.heap ∧ ReturnedEndW sS oO tT lA jr13.cells jr13.slots) (s₁.setTop (entryFrame mM #[(.int x), (.int k)] 4))
  refine own_fin (b := s₁.setTop (mkF mM 0 #[.val (.int x), .val (.int k), .unset, .unset] [])) (fun tT kK => castTop (own_ef_rm_idc mM x k) kK) ?_
  obtain ⟨a1_, T1_, h1_, k11_, b1_, kc1_, X1_, e1_, E1_, hS1_, hk1_, hZ, hown, Ea1_, Fc1_, Fv1_, Vb1_, la1_, lb1_, Cr1_, -, sfn1_, st1_⟩ := ldcCH X0 hx hZ hown (jk hw 10 rfl) (own_wS hw) e0 hS0 hk0 (own_EW hw) (EL := own_EL) (List.mem_of_getElem? (i := 0) rfl) CH0.1 (vs := [(.int (65 : Int32)), (.int (66 : Int32)), (.int (67 : Int32)), (.int (68 : Int32)), (.int (69 : Int32)), (.int (70 : Int32)), (.int (71 : Int32)), (.int (72 : Int32)), (.int (73 : Int32)), (.int (74 : Int32)), (.int (75 : Int32)), (.int (76 : Int32)), (.int (77 : Int32)), (.int (78 : Int32)), (.int (79 : Int32)), (.int (80 : Int32)), (.int (81 : Int32)), (.int (82 : Int32)), (.int (83 : Int32)), (.int (84 : Int32)), (.int (85 : Int32)), (.int (86 : Int32)), (.int (87 : Int32)), (.int (88 : Int32)), (.int (89 : Int32)), (.int (90 : Int32)), (.int (97 : Int32)), (.int (98 : Int32)), (.int (99 : Int32)), (.int (100 : Int32)), (.int (101 : Int32)), (.int (102 : Int32)), (.int (103 : Int32)), (.int (104 : Int32)), (.int (105 : Int32)), (.int (106 : Int32)), (.int (107 : Int32)), (.int (108 : Int32)), (.int (109 : Int32)), (.int (110 : Int32)), (.int (111 : Int32)), (.int (112 : Int32)), (.int (113 : Int32)), (.int (114 : Int32)), (.int (115 : Int32)), (.int (116 : Int32)), (.int (117 : Int32)), (.int (118 : Int32)), (.int (119 : Int32)), (.int (120 : Int32)), (.int (121 : Int32)), (.int (122 : Int32)), (.int (48 : Int32)), (.int (49 : Int32)), (.int (50 : Int32)), (.int (51 : Int32)), (.int (52 : Int32)), (.int (53 : Int32)), (.int (54 : Int32)), (.int (55 : Int32)), (.int (56 : Int32)), (.int (57 : Int32)), (.int (46 : Int32)), (.int (95 : Int32)), (.int (58 : Int32)), (.int (45 : Int32))]) (z := (66 : Int32)) ⟨by decide, by rfl⟩ (by decide) (by decide) (g := (mkF mM 0 #[vI x, vI k, vU, vU] [])) rfl (hC e2_0.1) (n := 264) (by decide) (by decide) (by decide) (by decide)
  have fc2_ := Oo.ext E1_
  have K1_ := K0.ext E1_
  have CH1_ := CH0.trans Cr1_
  have Tb1_ : own_T Z h1_ b1_ .byte (66 : Int32) (own_li own_al) := own_at_T (xs := own_al) Vb1_
  refine own_fin st1_ ?_
  let ll1 : Array Slot := #[vI x, vI k, vR a1_, vI ((((x.toUInt32 >>> (((7 : Int32) * k) &&& 31).toUInt32).toInt32) &&& (127 : Int32)) % (66 : Int32))]
  refine jg T1_ mM 18 ll1 [(.int ((((x.toUInt32 >>> (((7 : Int32) * k) &&& 31).toUInt32).toInt32) &&& (127 : Int32)) % (66 : Int32))), (.ref a1_)] (fun tT kK => ?_) ?_
  · let ll2 : Array Slot := #[vI x, vI k, vR a1_, vU]
    refine XS.astoreN X1_.here hx rfl (hC e2_0.2.1) rfl rfl (l' := ll2) rfl ?_
    refine XS.iloadN X1_.here hx rfl (hC e2_0.2.2.1) rfl ?_
    refine XS.bipush X1_.here hx rfl (hC e2_0.2.2.2) ?_
    refine XS.iloadN X1_.here hx rfl (hC e2_6.1) rfl ?_
    refine XS.imul X1_.here hx rfl (hC e2_6.2.1) rfl ?_
    refine XS.iushr X1_.here hx rfl (hC e2_6.2.2.1) rfl ?_
    refine XS.bipush X1_.here hx rfl (hC e2_6.2.2.2) ?_
    refine XS.iand X1_.here hx rfl (hC e2_11.1) rfl ?_
    refine XS.bipush X1_.here hx rfl (hC e2_11.2.1) ?_
    refine iremM X1_ hx rfl (hC e2_11.2.2.1) rfl (by decide) ?_
    refine XS.istoreN X1_.here hx rfl (hC e2_11.2.2.2) rfl (l' := ll1) rfl ?_
    refine XS.aloadN X1_.here hx rfl (hC e2_16.1) rfl rfl ?_
    refine XS.iloadN X1_.here hx rfl (hC e2_16.2.1) rfl ?_
    exact kK
  refine jv X1_ hx hZ (y := jy6) hown (jk hw 18 rfl) (jk hw 19 rfl) (jk hw 21 rfl) (jk hw 20 rfl) (jk hw 22 rfl) (jk hw 11 rfl) (rm_char lL Z a0 hw [] a1_ ((((x.toUInt32 >>> (((7 : Int32) * k) &&& 31).toUInt32).toInt32) &&& (127 : Int32)) % (66 : Int32)) b1_ (66 : Int32) (own_li own_al) cs fv h1_ n0 (Nat.le_trans Z0 K1_.1) fc2_ Scs ncs Sfv rfv Ea1_ Fv1_ Fc1_ Tb1_ (own_ix _).1 (own_ix _).2) Ea1_ e1_ own_pd14 [(.int ((((x.toUInt32 >>> (((7 : Int32) * k) &&& 31).toUInt32).toInt32) &&& (127 : Int32)) % (66 : Int32)))] [] (hC e2_16.2.2) rfl rfl (by rw [hml]; rfl) (by decide) 0 (Nat.le_of_eq rfl) (by decide) (by decide) (by decide : 2 + 0 ≤ _) (by decide : 268 + 0 ≤ _) fun vv3_ T3_ L3_ X3_ hQ3_ => ?_
  obtain ⟨rfl, N3_q, p3__0⟩ := hQ3_
  have N3_ := Fr.app N0 N3_q
  obtain ⟨fs, hr, hrun, hended, hE1, hE2, hE3, hE4⟩ := X3_.leaveW hS1_ (own_hk p3__0 hk1_) (v := some (.int (nar .char (own_ch ((own_li own_al) ((((x.toUInt32 >>> (((7 : Int32) * k) &&& 31).toUInt32).toInt32) &&& (127 : Int32)) % (66 : Int32))))))) (fun h => by rw [Bd.returns] at h; cases h)
  refine ⟨_, _, ?_, hrun, hended, _, _, rfl, ?_, own_CHe (T := T3_) (vm1 := T3_.vm) hh p3__0 (CH1_.trans (CHv.at X3_ hZ (own_EW hw) CH1_.1)), hE1, hE2, hE3, hE4.mono (by decide) (by decide)⟩
  · show Steps pP.tables eE below (T3_.setTop (mkF mM 21 ll1 [(.int (own_ch ((own_li own_al) ((((x.toUInt32 >>> (((7 : Int32) * k) &&& 31).toUInt32).toInt32) &&& (127 : Int32)) % (66 : Int32)))))])) _
    exact retN X3_ hx (t := .char) Bd.returns (by simp) (hC d2_21) hr
  · show Q_rm_idc Z x k cs fv h0 n0 _ T3_.heap _
    rw [p3__0]
    exact ⟨by rw [own_ncc]; rfl, N3_, K1_⟩
theorem e8_0 : jD22 0 (.iconst 1, 1) ∧ jD22 1 (.iload_n 0, 1) ∧ jD22 2 (.bipush 14, 2) ∧ jD22 4 (.iushr, 1) := by decide +kernel
theorem e8_5 : jD22 5 (.iconst 1, 1) ∧ jD22 6 (.iand, 1) ∧ jD22 7 (.iadd, 1) ∧ jD22 8 (.ireturn, 1) := by decide +kernel
theorem own_ef_rm_il (mM : MethodId) (x0 : Int32) : entryFrame mM #[(.int x0)] 1 = mkF mM 0 #[.val (.int x0)] [] := by first | (simp [entryFrame, mkF, argsToLocals, Value.category]; done) | rfl
def Q_rm_il (Z : State) (x : Int32) (h0 : Heap) (n0 : Nat) (vV : Option Value) (hH : Heap) (lA : List Loc) : Prop := vV = some (.int (own_il x)) ∧ Fr n0 lA ∧ (hH = h0)
set_option maxRecDepth 65536 in
set_option maxHeartbeats 40000000 in
theorem rm_il (lL : Launch) (Z : State) (a0 : Array Value) (hw : own_H a0 Z) (ws : List Jvm.Cond) (x : Int32) (h0 : Heap) (n0 : Nat) (Z0 : n0 ≤ h0.size) :
    own_Met lL jy22 (Jvm.Cond.code jy22 method_3_code 1 (some .int) :: ws) jr0 #[(.int x)] Z h0 (Q_rm_il Z x h0 n0) := by
  refine own_begin (plainFor_of_name own_pn_com_example_waldrapp_waldrapp_IntentEqualsPinLaw) (fun mM => own_ef_rm_il mM x) fun pP eE sS mM below meth cC s₁ hx hby hml hZ hown hnm hre hlk X0 e0 => ?_
  have hC := @Jvm.hb _ _ hby
  have N0 := Fr.nil n0
  have K0 := Keep.refl h0 ([] : List Addr)
  refine jg s₁ mM 8 #[vI x] [(.int ((1 : Int32) + (((x.toUInt32 >>> ((14 : Int32) &&& 31).toUInt32).toInt32) &&& (1 : Int32))))] (fun tT kK => ?_) ?_
  · refine XS.iconst X0.here hx rfl (hC e8_0.1) ?_
    refine XS.iloadN X0.here hx rfl (hC e8_0.2.1) rfl ?_
    refine XS.bipush X0.here hx rfl (hC e8_0.2.2.1) ?_
    refine XS.iushr X0.here hx rfl (hC e8_0.2.2.2) rfl ?_
    refine XS.iconst X0.here hx rfl (hC e8_5.1) ?_
    refine XS.iand X0.here hx rfl (hC e8_5.2.1) rfl ?_
    refine XS.iadd X0.here hx rfl (hC e8_5.2.2.1) rfl ?_
    exact kK
  exact own_rr X0 hx hlk hre rfl (Or.inl ⟨rfl, Or.inl rfl, _, rfl⟩) (hC e8_5.2.2.2) e0 (by decide) (by decide) ⟨rfl, N0, rfl⟩
theorem e16_0 : jD23 0 (.iload_n 0, 1) ∧ jD23 1 (.bipush 16, 2) ∧ jD23 3 (.iushr, 1) ∧ jD23 4 (.iconst 3, 1) := by decide +kernel
theorem e16_5 : jD23 5 (.iand, 1) ∧ jD23 6 (.iconst 3, 1) ∧ jD23 7 (.irem, 1) ∧ jD23 8 (.ireturn, 1) := by decide +kernel
theorem own_ef_rm_pl (mM : MethodId) (x0 : Int32) : entryFrame mM #[(.int x0)] 1 = mkF mM 0 #[.val (.int x0)] [] := by first | (simp [entryFrame, mkF, argsToLocals, Value.category]; done) | rfl
def Q_rm_pl (Z : State) (y : Int32) (h0 : Heap) (n0 : Nat) (vV : Option Value) (hH : Heap) (lA : List Loc) : Prop := vV = some (.int (own_pl y)) ∧ Fr n0 lA ∧ (hH = h0)
set_option maxRecDepth 65536 in
set_option maxHeartbeats 40000000 in
theorem rm_pl (lL : Launch) (Z : State) (a0 : Array Value) (hw : own_H a0 Z) (ws : List Jvm.Cond) (y : Int32) (h0 : Heap) (n0 : Nat) (Z0 : n0 ≤ h0.size) :
    own_Met lL jy23 (Jvm.Cond.code jy23 method_6_code 1 (some .int) :: ws) jr0 #[(.int y)] Z h0 (Q_rm_pl Z y h0 n0) := by
  refine own_begin (plainFor_of_name own_pn_com_example_waldrapp_waldrapp_IntentEqualsPinLaw) (fun mM => own_ef_rm_pl mM y) fun pP eE sS mM below meth cC s₁ hx hby hml hZ hown hnm hre hlk X0 e0 => ?_
  have hC := @Jvm.hb _ _ hby
  have N0 := Fr.nil n0
  have K0 := Keep.refl h0 ([] : List Addr)
  refine jg s₁ mM 8 #[vI y] [(.int ((((y.toUInt32 >>> ((16 : Int32) &&& 31).toUInt32).toInt32) &&& (3 : Int32)) % (3 : Int32)))] (fun tT kK => ?_) ?_
  · refine XS.iloadN X0.here hx rfl (hC e16_0.1) rfl ?_
    refine XS.bipush X0.here hx rfl (hC e16_0.2.1) ?_
    refine XS.iushr X0.here hx rfl (hC e16_0.2.2.1) rfl ?_
    refine XS.iconst X0.here hx rfl (hC e16_0.2.2.2) ?_
    refine XS.iand X0.here hx rfl (hC e16_5.1) rfl ?_
    refine XS.iconst X0.here hx rfl (hC e16_5.2.1) ?_
    refine iremM X0 hx rfl (hC e16_5.2.2.1) rfl (by decide) ?_
    exact kK
  exact own_rr X0 hx hlk hre rfl (Or.inl ⟨rfl, Or.inl rfl, _, rfl⟩) (hC e16_5.2.2.2) e0 (by decide) (by decide) ⟨rfl, N0, rfl⟩
theorem e38_0 : jD24 0 (.iload_n 0, 1) ∧ jD24 1 (.bipush 8, 2) ∧ jD24 3 (.iload_n 1, 1) ∧ jD24 4 (.imul, 1) := by decide +kernel
theorem e38_5 : jD24 5 (.iushr, 1) ∧ jD24 6 (.sipush 255, 3) ∧ jD24 9 (.iand, 1) ∧ jD24 10 (.istore_n 2, 1) := by decide +kernel
theorem e38_11 : jD24 11 (.iload_n 2, 1) ∧ jD24 12 (.bipush 9, 2) ∧ jD24 14 (.if_icmp .eq 9, 3) ∧ jD24 23 (.iload_n 2, 1) := by decide +kernel
theorem e38_24 : jD24 24 (.iconst 2, 1) ∧ jD24 25 (.iadd, 1) ∧ jD24 26 (.istore_n 2, 1) ∧ jD24 17 (.iload_n 2, 1) := by decide +kernel
theorem e38_18 : jD24 18 (.bipush 10, 2) ∧ jD24 20 (.if_icmp .ne 7, 3) ∧ jD24 27 (.iload_n 2, 1) ∧ jD24 28 (.i2c, 1) := by decide +kernel
theorem d38_29 : jD24 29 (.ireturn, 1) := by decide +kernel
theorem own_ef_rm_pc (mM : MethodId) (x0 : Int32) (x1 : Int32) : entryFrame mM #[(.int x0), (.int x1)] 3 = mkF mM 0 #[.val (.int x0), .val (.int x1), .unset] [] := by first | (simp [entryFrame, mkF, argsToLocals, Value.category]; done) | rfl
def Q_rm_pc (Z : State) (y : Int32) (k : Int32) (h0 : Heap) (n0 : Nat) (vV : Option Value) (hH : Heap) (lA : List Loc) : Prop := vV = some (.int (own_pc y k)) ∧ Fr n0 lA ∧ (hH = h0)
set_option maxRecDepth 65536 in
set_option maxHeartbeats 40000000 in
theorem rm_pc (lL : Launch) (Z : State) (a0 : Array Value) (hw : own_H a0 Z) (ws : List Jvm.Cond) (y : Int32) (k : Int32) (h0 : Heap) (n0 : Nat) (Z0 : n0 ≤ h0.size) :
    own_Met lL jy24 (Jvm.Cond.code jy24 method_7_code 3 (some .char) :: ws) jr0 #[(.int y), (.int k)] Z h0 (Q_rm_pc Z y k h0 n0) := by
  refine own_begin (plainFor_of_name own_pn_com_example_waldrapp_waldrapp_IntentEqualsPinLaw) (fun mM => own_ef_rm_pc mM y k) fun pP eE sS mM below meth cC s₁ hx hby hml hZ hown hnm hre hlk X0 e0 => ?_
  have hC := @Jvm.hb _ _ hby
  have N0 := Fr.nil n0
  have K0 := Keep.refl h0 ([] : List Addr)
  let ll1 : Array Slot := #[vI y, vI k, vI (((y.toUInt32 >>> (((8 : Int32) * k) &&& 31).toUInt32).toInt32) &&& (255 : Int32))]
  refine jg s₁ mM 11 ll1 [] (fun tT kK => ?_) ?_
  · refine XS.iloadN X0.here hx rfl (hC e38_0.1) rfl ?_
    refine XS.bipush X0.here hx rfl (hC e38_0.2.1) ?_
    refine XS.iloadN X0.here hx rfl (hC e38_0.2.2.1) rfl ?_
    refine XS.imul X0.here hx rfl (hC e38_0.2.2.2) rfl ?_
    refine XS.iushr X0.here hx rfl (hC e38_5.1) rfl ?_
    refine XS.sipush X0.here hx rfl (hC e38_5.2.1) ?_
    refine XS.iand X0.here hx rfl (hC e38_5.2.2.1) rfl ?_
    refine XS.istoreN X0.here hx rfl (hC e38_5.2.2.2) rfl (l' := ll1) rfl ?_
    exact kK
  obtain ⟨cv, hcv, st1_⟩ : ∃ cv : Int32, (cv = (if (((y.toUInt32 >>> (((8 : Int32) * k) &&& 31).toUInt32).toInt32) &&& (255 : Int32)) = (9 : Int32) then ((((y.toUInt32 >>> (((8 : Int32) * k) &&& 31).toUInt32).toInt32) &&& (255 : Int32)) + (2 : Int32)) else (if (((y.toUInt32 >>> (((8 : Int32) * k) &&& 31).toUInt32).toInt32) &&& (255 : Int32)) = (10 : Int32) then ((((y.toUInt32 >>> (((8 : Int32) * k) &&& 31).toUInt32).toInt32) &&& (255 : Int32)) + (2 : Int32)) else (((y.toUInt32 >>> (((8 : Int32) * k) &&& 31).toUInt32).toInt32) &&& (255 : Int32))))) ∧ ∀ tT, Steps pP.tables eE below (s₁.setTop (mkF mM 27 #[.val (.int y), .val (.int k), .val (.int cv)] [])) tT → Steps pP.tables eE below (s₁.setTop (mkF mM 11 #[.val (.int y), .val (.int k), .val (.int (((y.toUInt32 >>> (((8 : Int32) * k) &&& 31).toUInt32).toInt32) &&& (255 : Int32)))] [])) tT := by
    by_cases hm1 : (((y.toUInt32 >>> (((8 : Int32) * k) &&& 31).toUInt32).toInt32) &&& (255 : Int32)) = (9 : Int32)
    · refine ⟨((((y.toUInt32 >>> (((8 : Int32) * k) &&& 31).toUInt32).toInt32) &&& (255 : Int32)) + (2 : Int32)), by rw [if_pos hm1], fun tT kK => ?_⟩
      refine XS.iloadN X0.here hx rfl (hC e38_11.1) rfl ?_
      refine XS.bipush X0.here hx rfl (hC e38_11.2.1) ?_
      refine XS.icmpYes X0.here hx rfl (pc0 := 14) (pc' := 23) rfl (hC e38_11.2.2.1) rfl (teq (hm1 : (((y.toUInt32 >>> (((8 : Int32) * k) &&& 31).toUInt32).toInt32) &&& (255 : Int32)) = (9 : Int32))).1 (by decide) (by decide) ?_
      refine XS.iloadN X0.here hx rfl (hC e38_11.2.2.2) rfl ?_
      refine XS.iconst X0.here hx rfl (hC e38_24.1) ?_
      refine XS.iadd X0.here hx rfl (hC e38_24.2.1) rfl ?_
      let ll2 : Array Slot := #[vI y, vI k, vI ((((y.toUInt32 >>> (((8 : Int32) * k) &&& 31).toUInt32).toInt32) &&& (255 : Int32)) + (2 : Int32))]
      refine XS.istoreN X0.here hx rfl (hC e38_24.2.2.1) rfl (l' := ll2) rfl ?_
      exact kK
    · by_cases hm2 : (((y.toUInt32 >>> (((8 : Int32) * k) &&& 31).toUInt32).toInt32) &&& (255 : Int32)) = (10 : Int32)
      · refine ⟨((((y.toUInt32 >>> (((8 : Int32) * k) &&& 31).toUInt32).toInt32) &&& (255 : Int32)) + (2 : Int32)), by rw [if_neg hm1, if_pos hm2], fun tT kK => ?_⟩
        refine XS.iloadN X0.here hx rfl (hC e38_11.1) rfl ?_
        refine XS.bipush X0.here hx rfl (hC e38_11.2.1) ?_
        refine XS.icmpNo X0.here hx rfl (hC e38_11.2.2.1) rfl (feq (hm1 : ¬ ((((y.toUInt32 >>> (((8 : Int32) * k) &&& 31).toUInt32).toInt32) &&& (255 : Int32)) = (9 : Int32)))).1 ?_
        refine XS.iloadN X0.here hx rfl (hC e38_24.2.2.2) rfl ?_
        refine XS.bipush X0.here hx rfl (hC e38_18.1) ?_
        refine XS.icmpNo X0.here hx rfl (hC e38_18.2.1) rfl (teq (hm2 : (((y.toUInt32 >>> (((8 : Int32) * k) &&& 31).toUInt32).toInt32) &&& (255 : Int32)) = (10 : Int32))).2 ?_
        refine XS.iloadN X0.here hx rfl (hC e38_11.2.2.2) rfl ?_
        refine XS.iconst X0.here hx rfl (hC e38_24.1) ?_
        refine XS.iadd X0.here hx rfl (hC e38_24.2.1) rfl ?_
        let ll3 : Array Slot := #[vI y, vI k, vI ((((y.toUInt32 >>> (((8 : Int32) * k) &&& 31).toUInt32).toInt32) &&& (255 : Int32)) + (2 : Int32))]
        refine XS.istoreN X0.here hx rfl (hC e38_24.2.2.1) rfl (l' := ll3) rfl ?_
        exact kK
      · refine ⟨(((y.toUInt32 >>> (((8 : Int32) * k) &&& 31).toUInt32).toInt32) &&& (255 : Int32)), by rw [if_neg hm1, if_neg hm2], fun tT kK => ?_⟩
        refine XS.iloadN X0.here hx rfl (hC e38_11.1) rfl ?_
        refine XS.bipush X0.here hx rfl (hC e38_11.2.1) ?_
        refine XS.icmpNo X0.here hx rfl (hC e38_11.2.2.1) rfl (feq (hm1 : ¬ ((((y.toUInt32 >>> (((8 : Int32) * k) &&& 31).toUInt32).toInt32) &&& (255 : Int32)) = (9 : Int32)))).1 ?_
        refine XS.iloadN X0.here hx rfl (hC e38_24.2.2.2) rfl ?_
        refine XS.bipush X0.here hx rfl (hC e38_18.1) ?_
        refine XS.icmpYes X0.here hx rfl (pc0 := 20) (pc' := 27) rfl (hC e38_18.2.1) rfl (feq (hm2 : ¬ ((((y.toUInt32 >>> (((8 : Int32) * k) &&& 31).toUInt32).toInt32) &&& (255 : Int32)) = (10 : Int32)))).2 (by decide) (by decide) ?_
        exact kK
  refine own_fin st1_ ?_
  refine jg s₁ mM 29 #[vI y, vI k, vI cv] [(.int (cv.toUInt32.toUInt16.toUInt32.toInt32))] (fun tT kK => ?_) ?_
  · refine XS.iloadN X0.here hx rfl (hC e38_18.2.2.1) rfl ?_
    refine XS.i2c X0.here hx rfl (hC e38_18.2.2.2) rfl ?_
    exact kK
  exact own_rN X0 hx hlk hre (by simp) (hC d38_29) e0 (by decide) (by decide) ⟨by rw [hcv]; exact congrArg (fun q => some (Value.int q)) (own_pcr y k), N0, rfl⟩
theorem e1_0 : jD25 0 (.iload_n 0, 1) ∧ jD25 1 (.iconst 0, 1) ∧ jD25 2 (.invokestatic 15, 3) := by decide +kernel
theorem own_pd15 : parseMethodDescriptor "(II)C" = some ⟨[.int, .int], some .char⟩ := by decide +kernel
theorem e1_5 : jD25 5 (.istore_n 1, 1) ∧ jD25 6 (.iload_n 0, 1) ∧ jD25 7 (.invokestatic 21, 3) := by decide +kernel
theorem own_pd16 : parseMethodDescriptor "(I)I" = some ⟨[.int], some .int⟩ := by decide +kernel
theorem e1_10 : jD25 10 (.iconst 1, 1) ∧ jD25 11 (.if_icmp .ne 18, 3) ∧ jD25 14 (.new 10, 3) ∧ jD25 17 (.dup, 1) := by decide +kernel
theorem e1_18 : jD25 18 (.iconst 1, 1) ∧ jD25 19 (.newarray .char, 2) ∧ jD25 21 (.dup, 1) ∧ jD25 22 (.iconst 0, 1) := by decide +kernel
theorem e1_23 : jD25 23 (.iload_n 1, 1) ∧ jD25 24 (.castore, 1) ∧ jD25 25 (.invokespecial 25, 3) := by decide +kernel
theorem own_pd17 : parseMethodDescriptor "([C)V" = some ⟨[(.array .char)], none⟩ := by decide +kernel
theorem e1_28 : jD25 28 (.areturn, 1) ∧ jD25 29 (.new 10, 3) ∧ jD25 32 (.dup, 1) ∧ jD25 33 (.iconst 2, 1) := by decide +kernel
theorem e1_34 : jD25 34 (.newarray .char, 2) ∧ jD25 36 (.dup, 1) ∧ jD25 37 (.iconst 0, 1) ∧ jD25 38 (.iload_n 1, 1) := by decide +kernel
theorem e1_39 : jD25 39 (.castore, 1) ∧ jD25 40 (.dup, 1) ∧ jD25 41 (.iconst 1, 1) ∧ jD25 42 (.iload_n 0, 1) := by decide +kernel
theorem e1_43 : jD25 43 (.iconst 1, 1) ∧ jD25 44 (.invokestatic 15, 3) ∧ jD25 47 (.castore, 1) ∧ jD25 48 (.invokespecial 25, 3) := by decide +kernel
theorem d1_51 : jD25 51 (.areturn, 1) := by decide +kernel
theorem own_ef_rm_id (mM : MethodId) (x0 : Int32) : entryFrame mM #[(.int x0)] 2 = mkF mM 0 #[.val (.int x0), .unset] [] := by first | (simp [entryFrame, mkF, argsToLocals, Value.category]; done) | rfl
def Q_rm_id (Z : State) (x : Int32) (cs : Int32) (fv : Value) (h0 : Heap) (n0 : Nat) (vV : Option Value) (hH : Heap) (lA : List Loc) : Prop := ∃ s' : Addr, ∃ t' : Addr, ∃ z' : Int32, ∃ f' : Int32 → Int32, vV = some (.ref s') ∧ Fr n0 lA ∧ (Keep h0 hH []) ∧ (h0.size ≤ s') ∧ (jE0 Z hH s') ∧ (jF1 Z hH s' (.ref t')) ∧ (jF0 Z hH s' (.int (0 : Int32))) ∧ (own_T Z hH t' .byte z' f') ∧ (own_is z' f' (own_il x) (own_idc x (0 : Int32)) (own_idc x (1 : Int32)))
set_option maxRecDepth 65536 in
set_option maxHeartbeats 40000000 in
theorem rm_id (lL : Launch) (Z : State) (a0 : Array Value) (hw : own_H a0 Z) (ws : List Jvm.Cond) (x : Int32) (cs : Int32) (fv : Value) (h0 : Heap) (n0 : Nat) (Z0 : n0 ≤ h0.size) (Oo : Old Z n0 h0) (Scs : Sta Z Z.heap "java/lang/String" "COMPACT_STRINGS" "Z" (.int cs)) (ncs : ¬ (cs = (0 : Int32))) (Sfv : Sta Z Z.heap "jdk/internal/util/Preconditions" "SIOOBE_FORMATTER" "Ljava/util/function/BiFunction;" fv) (rfv : fv.isRef = true) :
    MetFree lL jy25 (head1 (Jvm.Cond.code jy25 method_4_code 2 (some (.object "java/lang/String")) :: ws) jr14) (fun aA uU => aA = #[(.int x)] ∧ Z.Warmed39 uU.vm ∧ uU.heap = h0 ∧ CHv Z own_EL uU.vm h0 ∧ ∀ x ∈ ([] : List Addr), Safe Z own_EL uU.vm h0 x) (fun _ _ _ _ _ => True) (fun _ uU oO uU' => ∃ vV lA, oO = .returned vV ∧ Q_rm_id Z x cs fv h0 n0 vV uU'.heap lA ∧ CHr Z own_EL uU.vm uU.heap uU'.vm uU'.heap ∧ ReturnedEndW uU oO uU' lA jr14.cells jr14.slots) := by
  refine MetFree.of_bodySF (plainFor_of_name own_pn_com_example_waldrapp_waldrapp_IntentEqualsPinLaw) hisR ?_
  intro pP eE sS mM args below meth cC s₁ Bd hml0 hP hK
  obtain ⟨rfl, hZ, hh, hC0, hY0⟩ := hP
  have hx := Bd.exec
  have hby := Bd.bytes
  have hC := @Jvm.hb _ _ hby
  have hml : cC.maxLocals = 2 := hml0
  have hown : sS.vm.findClass "com/example/waldrapp/waldrapp/IntentEqualsPinLaw" = some mM.cls := findClass_of_methodNamed Bd.named
  have hnm := (name_of_methodNamed Bd.named Bd.method).1
  have X0 : Stand pP lL eE jr14 (sS.setVm sS.vm) mM #[(.int x)] below meth cC s₁ [] 0 0 := Stand.of_body Bd
  have hS0 : sS.Since sS.vm 0 := (State.WarmedH.refl sS).since 0
  have hk0 : 0 ≤ h0.size := Nat.zero_le _
  have CH0 : CHr Z own_EL sS.vm h0 sS.vm h0 := CHr.refl hC0
  have e0 : s₁.heap = h0 := by rw [← hh, Bd.state]; rfl
  have N0 := Fr.nil n0
  have K0 := Keep.refl h0 ([] : List Addr)
  show own_Fin pP eE below (fun tT oO => ∃ vV lA, oO = .returned vV ∧ Q_rm_id Z x cs fv h0 n0 vV tT.heap lA ∧ CHr Z own_EL sS.vm sS.heap tT.vm tT.heap ∧ ReturnedEndW sS oO tT lA jr14.cells jr14.slots) (s₁.setTop (entryFrame mM #[(.int x)] 2))
  refine own_fin (b := s₁.setTop (mkF mM 0 #[.val (.int x), .unset] [])) (fun tT kK => castTop (own_ef_rm_id mM x) kK) ?_
  refine jg s₁ mM 2 #[vI x, vU] [(.int (0 : Int32)), (.int x)] (fun tT kK => ?_) ?_
  · refine XS.iloadN X0.here hx rfl (hC e1_0.1) rfl ?_
    refine XS.iconst X0.here hx rfl (hC e1_0.2.1) ?_
    exact kK
  obtain ⟨_, _, ⟨T1_, L1_, k1_, n1_⟩, -, Xa1_, hSa1_, hga1_, ⟨Lc1_, hQ1_, l1_, y1_, z1_, hC1_⟩, st1_⟩ := callSS X0 hx (y := jy21) hown (jm hZ hw 7 rfl) (jm hZ hw 8 rfl) (jm hZ hw 5 rfl) (jm hZ hw 9 rfl) (by decide) (own_backSY (W := 0) (rm_idc lL Z a0 hw [] x (0 : Int32) cs fv h0 n0 (Nat.le_trans Z0 K0.1) Oo Scs ncs Sfv rfv) hZ (jk hw 9 rfl) (jk hw 5 rfl) (by decide) (by decide) (own_EW hw) CH0.1 own_y0) (g := (mkF mM 2 #[vI x, vU] [(.int (0 : Int32)), (.int x)])) rfl (by rw [hml]; rfl) (argsL := [(.int x), (.int (0 : Int32))]) (rest := []) (lenOf own_pd15 rfl) rfl (by show 2 * 0 + _ ≤ _; exact Nat.le_of_eq rfl) (hC e1_0.2.2) (fun _ _ => ⟨rfl, e0, (by decide : 0 + 2 ≤ _), (by decide : 0 + 268 ≤ _)⟩)
  dsimp only [Pt.U, Pt.locs, Pt.cells, Pt.slots] at Xa1_ hSa1_ hga1_ l1_ y1_ z1_ st1_ hQ1_ hC1_
  subst l1_ y1_ z1_
  obtain ⟨X1_, hS1_, hZ, hown⟩ := rebS hS0 (own_hk e0 hk0) Xa1_ hSa1_ hga1_ hZ hown
  obtain ⟨rfl, N1_q, p1__0⟩ := hQ1_
  have N1_ := Fr.app N0 N1_q
  have fc2_ := Oo.keep p1__0 all0
  have K1_ := K0.trans p1__0 all0
  have CH1_ := CH0.trans hC1_
  have hk1_ : T1_.heap.size ≤ T1_.heap.size := Nat.le_refl _
  refine own_fin (fun tT kK => st1_.trans kK) ?_
  let ll1 : Array Slot := #[vI x, vI (own_idc x (0 : Int32))]
  refine jg T1_ mM 7 ll1 [(.int x)] (fun tT kK => ?_) ?_
  · refine XS.istoreN X1_.here hx rfl (hC e1_5.1) rfl (l' := ll1) rfl ?_
    refine XS.iloadN X1_.here hx rfl (hC e1_5.2.1) rfl ?_
    exact kK
  refine jc X1_ hx hZ (y := jy22) hown (jk hw 43 rfl) (jk hw 44 rfl) (jk hw 5 rfl) (jk hw 45 rfl) (rm_il lL Z a0 hw [] x T1_.heap n0 (Nat.le_trans Z0 K1_.1) ) rfl own_pd16 [(.int x)] [] (hC e1_5.2.2) rfl rfl (by rw [hml]; rfl) (by decide) 0 (Nat.le_of_eq rfl) (by decide) (by decide) (by decide : 2 + 0 ≤ _) (by decide : 268 + 0 ≤ _) fun vv3_ T3_ L3_ X3_ hQ3_ => ?_
  obtain ⟨rfl, N3_q, p3__0⟩ := hQ3_
  have N3_ := Fr.app N1_ N3_q
  refine jg T3_ mM 11 ll1 [(.int (1 : Int32)), (.int (own_il x))] (fun tT kK => ?_) ?_
  · refine XS.iconst X3_.here hx rfl (hC e1_10.1) ?_
    exact kK
  by_cases hc11_4_ : (own_il x) = (1 : Int32)
  · refine jg T3_ mM 14 ll1 [] (fun tT kK => ?_) ?_
    · refine XS.icmpNo X3_.here hx rfl (hC e1_10.2.1) rfl (teq (hc11_4_ : (own_il x) = (1 : Int32))).2 ?_
      exact kK
    obtain ⟨T5_, h5_, X5_, e5_, E5_, A5_, D5_, -, st5_⟩ := newO X3_ hx hZ hown (jk hw 46 rfl) (jk hw 12 rfl) (jk hw 11 rfl) p3__0 (g := (mkF mM 14 ll1 [])) rfl (hC e1_10.2.2.1) (by decide) (by decide)
    obtain ⟨b5_, g5_⟩ : ∃ z, z = T1_.heap.size := ⟨_, rfl⟩
    rw [← g5_] at A5_ D5_ st5_
    have sz_b5_ : h0.size ≤ b5_ := Nat.le_trans K1_.1 (Nat.le_of_eq g5_.symm)
    have ge_b5_ : n0 ≤ b5_ := Nat.le_trans Z0 sz_b5_
    have fc6_ := fc2_.ext E5_
    have Cs5_ : CHr Z own_EL T1_.vm T1_.heap T1_.vm h5_ := CHr.ext E5_ CH1_.1
    have CH5_ := CH1_.trans Cs5_
    have hk5_ := Nat.le_trans hk1_ Cs5_.2.1
    have K5_ := K1_.ext E5_
    have sf5_ : Safe Z own_EL T1_.vm h5_ b5_ := Safe.ext E5_ CH1_.1 (Safe.new (Nat.le_of_eq g5_.symm))
    have F5__value : jF1 Z h5_ b5_ .null := D5_ (Or.inr (jk hw 14 rfl)) (ty := (.array .byte)) (by decide)
    have F5__coder : jF0 Z h5_ b5_ (.int (0 : Int32)) := D5_ (Or.inr (jk hw 15 rfl)) (ty := .byte) (by decide)
    refine own_fin st5_ ?_
    refine jg T5_ mM 19 ll1 [(.int (1 : Int32)), (.ref b5_), (.ref b5_)] (fun tT kK => ?_) ?_
    · refine XS.dup X5_.here hx rfl (hC e1_10.2.2.2) rfl rfl ?_
      refine XS.iconst X5_.here hx rfl (hC e1_18.1) ?_
      exact kK
    obtain ⟨T7_, h7_, k7_, X7_, e7_, E7_, A7_, st7_⟩ := newP X5_ hx hZ (jk hw 47 rfl) e5_ (g := (mkF mM 19 ll1 [(.int (1 : Int32)), (.ref b5_), (.ref b5_)])) rfl (hC e1_18.2.1) rfl (by decide) (cap := 1) (by decide) (by decide) (by decide) (by decide)
    obtain ⟨b7_, g7_⟩ : ∃ z, z = h5_.size := ⟨_, rfl⟩
    rw [← g7_] at A7_ st7_
    have sz_b7_ : h0.size ≤ b7_ := Nat.le_trans K5_.1 (Nat.le_of_eq g7_.symm)
    have ge_b7_ : n0 ≤ b7_ := Nat.le_trans Z0 sz_b7_
    have ne8_ : b5_ ≠ b7_ := Nat.ne_of_lt (Nat.lt_of_lt_of_le A5_.lt (Nat.le_of_eq g7_.symm))
    have fc9_ := fc6_.ext E7_
    have fc10_ := A5_.ext E7_
    have fc11_ := F5__value.ext E7_
    have fc12_ := F5__coder.ext E7_
    have Cs7_ : CHr Z own_EL T1_.vm h5_ T1_.vm h7_ := CHr.ext E7_ CH5_.1
    have sf13_ := Safe.ext E7_ CH5_.1 sf5_
    have CH7_ := CH5_.trans Cs7_
    have hk7_ := Nat.le_trans hk5_ Cs7_.2.1
    have K7_ := K5_.ext E7_
    have V7_ : own_T Z h7_ b7_ .char (1 : Int32) (fun _ => (0 : Int32)) := own_T.new A7_ (by decide) rfl
    refine own_fin st7_ ?_
    refine jg T7_ mM 24 ll1 [(.int (own_idc x (0 : Int32))), (.int (0 : Int32)), (.ref b7_), (.ref b7_), (.ref b5_), (.ref b5_)] (fun tT kK => ?_) ?_
    · refine XS.dup X7_.here hx rfl (hC e1_18.2.2.1) rfl rfl ?_
      refine XS.iconst X7_.here hx rfl (hC e1_18.2.2.2) ?_
      refine XS.iloadN X7_.here hx rfl (hC e1_23.1) rfl ?_
      exact kK
    obtain ⟨cl14_, Ar14_, Sz14_, Nn14_, Hh14_⟩ := id V7_
    have hin14_ : ¬ ((0 : Int32) < 0 ∨ cl14_.slots.size ≤ ((0 : Int32)).toNatClampNeg) := inb_of Sz14_ ⟨by decide, by decide⟩
    obtain ⟨T14_, h14_, X14_, e14_, W14_, st14_⟩ := stC X7_ hx hZ e7_ Ar14_ (j := (0 : Int32)) hin14_ (g := (mkF mM 24 ll1 [(.int (own_idc x (0 : Int32))), (.int (0 : Int32)), (.ref b7_), (.ref b7_), (.ref b5_), (.ref b5_)])) rfl rfl (hC e1_23.2.1)
    have U14_ : own_T Z h14_ b7_ .char (1 : Int32) (own_up (fun _ => (0 : Int32)) (0 : Int32) (nar .char (own_idc x (0 : Int32)))) := own_T.set ⟨cl14_, Ar14_, Sz14_, Nn14_, Hh14_⟩ W14_ ⟨by decide, by decide⟩
    have fc15_ := fc9_.wr W14_ ge_b7_
    have fc16_ := fc10_.wr W14_
    have fc17_ := fc11_.other W14_ (Or.inl ne8_)
    have fc18_ := fc12_.other W14_ (Or.inl ne8_)
    have sw14_ : Safe Z own_EL T1_.vm h7_ b7_ := (own_T.safe (EL := own_EL) hZ.alike V7_ (by decide))
    have Cs14_ : CHr Z own_EL T1_.vm h7_ T1_.vm h14_ := CHr.wr W14_ sw14_ CH7_.1
    have sf19_ := Safe.wr W14_ sw14_ CH7_.1 sf13_
    have CH14_ := CH7_.trans Cs14_
    have hk14_ := Nat.le_trans hk7_ Cs14_.2.1
    have K14_ := K7_.wr W14_ (Or.inr sz_b7_)
    have N14_ := Fr.snoc X14_ N3_ ge_b7_
    refine own_fin st14_ ?_
    have sk20_ : ∀ x ∈ ([b5_] : List Addr), Safe Z own_EL T1_.vm h14_ x := (sfS sf19_ sf0)
    refine own_sb X14_ hx hZ (y := jy11) rfl hown (jk hw 48 rfl) (jk hw 49 rfl) (jk hw 50 rfl) (jk hw 11 rfl) (rm_str lL Z a0 hw [] b5_ b7_ (1 : Int32) (own_up (fun _ => (0 : Int32)) (0 : Int32) (nar .char (own_idc x (0 : Int32)))) cs h14_ n0 (Nat.le_trans Z0 K14_.1) fc15_ Scs ncs fc16_ fc17_ fc18_ ge_b5_ U14_ (fun j _ => (own_upB own_z0 (own_ncb (own_idb _ _))) j) (by decide) (by decide) (Ne.symm ne8_)) (a := b5_) e14_ own_pd17 [(.ref b7_)] [(.ref b5_)] (hC e1_23.2.2) rfl rfl (by rw [hml]; rfl) (by decide) 1 (Nat.le_of_eq rfl) (by decide) (by decide) (by decide : 4 + 1 ≤ _) (by decide : 273 + 2 ≤ _) fun vv21_ T21_ L21_ X21_ hQ21_ => ?_
    obtain ⟨b_21_, rfl, N21_q, p21__0, p21__1, p21__2, p21__3, p21__4, p21__5⟩ := hQ21_
    have N21_ := Fr.app N14_ N21_q
    have K21_ := K14_.trans p21__0 (allS (Or.inr sz_b5_) all0)
    have Cs21_ : CHr Z own_EL T1_.vm h14_ T1_.vm T21_.heap := CHr.keep p21__0 sk20_ CH14_.1
    have sf27_ := Safe.keep p21__0 sk20_ CH14_.1 sf19_
    have CH21_ := CH14_.trans Cs21_
    have hk21_ := Nat.le_trans hk14_ Cs21_.2.1
    obtain ⟨fs, hr, hrun, hended, hE1, hE2, hE3, hE4⟩ := X21_.leaveW hS1_ (own_hk rfl hk21_) (v := some (.ref b5_)) (fun h => by rw [Bd.returns] at h; cases h)
    refine ⟨_, _, ?_, hrun, hended, _, _, rfl, ?_, own_CHe (T := T21_) (vm1 := T21_.vm) hh rfl (CH21_.trans (CHv.at X21_ hZ (own_EW hw) CH21_.1)), hE1, hE2, hE3, hE4.mono (by decide) (by decide)⟩
    · show Steps pP.tables eE below (T21_.setTop (mkF mM 28 ll1 [(.ref b5_)])) _
      exact retOut X21_ hx Bd.returns rfl (Or.inr (Or.inr (Or.inr (Or.inr ⟨rfl, rfl, rfl⟩)))) (hC e1_28.1) hr
    · show Q_rm_id Z x cs fv h0 n0 _ T21_.heap _
      exact ⟨b5_, b_21_, (1 : Int32), (fun j => ((own_up (fun _ => (0 : Int32)) (0 : Int32) (nar .char (own_idc x (0 : Int32)))) j).toInt8.toInt32), rfl, N21_, K21_, sz_b5_, p21__2, p21__3, p21__4, p21__5, own_s1 (x := x) hc11_4_ (own_idb _ _)⟩
  · refine jg T3_ mM 29 ll1 [] (fun tT kK => ?_) ?_
    · refine XS.icmpYes X3_.here hx rfl (pc0 := 11) (pc' := 29) rfl (hC e1_10.2.1) rfl (feq (hc11_4_ : ¬ ((own_il x) = (1 : Int32)))).2 (by decide) (by decide) ?_
      exact kK
    obtain ⟨T28_, h28_, X28_, e28_, E28_, A28_, D28_, -, st28_⟩ := newO X3_ hx hZ hown (jk hw 46 rfl) (jk hw 12 rfl) (jk hw 11 rfl) p3__0 (g := (mkF mM 29 ll1 [])) rfl (hC e1_28.2.1) (by decide) (by decide)
    obtain ⟨b28_, g28_⟩ : ∃ z, z = T1_.heap.size := ⟨_, rfl⟩
    rw [← g28_] at A28_ D28_ st28_
    have sz_b28_ : h0.size ≤ b28_ := Nat.le_trans K1_.1 (Nat.le_of_eq g28_.symm)
    have ge_b28_ : n0 ≤ b28_ := Nat.le_trans Z0 sz_b28_
    have fc29_ := fc2_.ext E28_
    have Cs28_ : CHr Z own_EL T1_.vm T1_.heap T1_.vm h28_ := CHr.ext E28_ CH1_.1
    have CH28_ := CH1_.trans Cs28_
    have hk28_ := Nat.le_trans hk1_ Cs28_.2.1
    have K28_ := K1_.ext E28_
    have sf28_ : Safe Z own_EL T1_.vm h28_ b28_ := Safe.ext E28_ CH1_.1 (Safe.new (Nat.le_of_eq g28_.symm))
    have F28__value : jF1 Z h28_ b28_ .null := D28_ (Or.inr (jk hw 14 rfl)) (ty := (.array .byte)) (by decide)
    have F28__coder : jF0 Z h28_ b28_ (.int (0 : Int32)) := D28_ (Or.inr (jk hw 15 rfl)) (ty := .byte) (by decide)
    refine own_fin st28_ ?_
    refine jg T28_ mM 34 ll1 [(.int (2 : Int32)), (.ref b28_), (.ref b28_)] (fun tT kK => ?_) ?_
    · refine XS.dup X28_.here hx rfl (hC e1_28.2.2.1) rfl rfl ?_
      refine XS.iconst X28_.here hx rfl (hC e1_28.2.2.2) ?_
      exact kK
    obtain ⟨T30_, h30_, k30_, X30_, e30_, E30_, A30_, st30_⟩ := newP X28_ hx hZ (jk hw 47 rfl) e28_ (g := (mkF mM 34 ll1 [(.int (2 : Int32)), (.ref b28_), (.ref b28_)])) rfl (hC e1_34.1) rfl (by decide) (cap := 2) (by decide) (by decide) (by decide) (by decide)
    obtain ⟨b30_, g30_⟩ : ∃ z, z = h28_.size := ⟨_, rfl⟩
    rw [← g30_] at A30_ st30_
    have sz_b30_ : h0.size ≤ b30_ := Nat.le_trans K28_.1 (Nat.le_of_eq g30_.symm)
    have ge_b30_ : n0 ≤ b30_ := Nat.le_trans Z0 sz_b30_
    have ne31_ : b28_ ≠ b30_ := Nat.ne_of_lt (Nat.lt_of_lt_of_le A28_.lt (Nat.le_of_eq g30_.symm))
    have fc32_ := fc29_.ext E30_
    have fc33_ := A28_.ext E30_
    have fc34_ := F28__value.ext E30_
    have fc35_ := F28__coder.ext E30_
    have Cs30_ : CHr Z own_EL T1_.vm h28_ T1_.vm h30_ := CHr.ext E30_ CH28_.1
    have sf36_ := Safe.ext E30_ CH28_.1 sf28_
    have CH30_ := CH28_.trans Cs30_
    have hk30_ := Nat.le_trans hk28_ Cs30_.2.1
    have K30_ := K28_.ext E30_
    have V30_ : own_T Z h30_ b30_ .char (2 : Int32) (fun _ => (0 : Int32)) := own_T.new A30_ (by decide) rfl
    refine own_fin st30_ ?_
    refine jg T30_ mM 39 ll1 [(.int (own_idc x (0 : Int32))), (.int (0 : Int32)), (.ref b30_), (.ref b30_), (.ref b28_), (.ref b28_)] (fun tT kK => ?_) ?_
    · refine XS.dup X30_.here hx rfl (hC e1_34.2.1) rfl rfl ?_
      refine XS.iconst X30_.here hx rfl (hC e1_34.2.2.1) ?_
      refine XS.iloadN X30_.here hx rfl (hC e1_34.2.2.2) rfl ?_
      exact kK
    obtain ⟨cl37_, Ar37_, Sz37_, Nn37_, Hh37_⟩ := id V30_
    have hin37_ : ¬ ((0 : Int32) < 0 ∨ cl37_.slots.size ≤ ((0 : Int32)).toNatClampNeg) := inb_of Sz37_ ⟨by decide, by decide⟩
    obtain ⟨T37_, h37_, X37_, e37_, W37_, st37_⟩ := stC X30_ hx hZ e30_ Ar37_ (j := (0 : Int32)) hin37_ (g := (mkF mM 39 ll1 [(.int (own_idc x (0 : Int32))), (.int (0 : Int32)), (.ref b30_), (.ref b30_), (.ref b28_), (.ref b28_)])) rfl rfl (hC e1_39.1)
    have U37_ : own_T Z h37_ b30_ .char (2 : Int32) (own_up (fun _ => (0 : Int32)) (0 : Int32) (nar .char (own_idc x (0 : Int32)))) := own_T.set ⟨cl37_, Ar37_, Sz37_, Nn37_, Hh37_⟩ W37_ ⟨by decide, by decide⟩
    have fc38_ := fc32_.wr W37_ ge_b30_
    have fc39_ := fc33_.wr W37_
    have fc40_ := fc34_.other W37_ (Or.inl ne31_)
    have fc41_ := fc35_.other W37_ (Or.inl ne31_)
    have sw37_ : Safe Z own_EL T1_.vm h30_ b30_ := (own_T.safe (EL := own_EL) hZ.alike V30_ (by decide))
    have Cs37_ : CHr Z own_EL T1_.vm h30_ T1_.vm h37_ := CHr.wr W37_ sw37_ CH30_.1
    have sf42_ := Safe.wr W37_ sw37_ CH30_.1 sf36_
    have CH37_ := CH30_.trans Cs37_
    have hk37_ := Nat.le_trans hk30_ Cs37_.2.1
    have K37_ := K30_.wr W37_ (Or.inr sz_b30_)
    have N37_ := Fr.snoc X37_ N3_ ge_b30_
    refine own_fin st37_ ?_
    refine jg T37_ mM 44 ll1 [(.int (1 : Int32)), (.int x), (.int (1 : Int32)), (.ref b30_), (.ref b30_), (.ref b28_), (.ref b28_)] (fun tT kK => ?_) ?_
    · refine XS.dup X37_.here hx rfl (hC e1_39.2.1) rfl rfl ?_
      refine XS.iconst X37_.here hx rfl (hC e1_39.2.2.1) ?_
      refine XS.iloadN X37_.here hx rfl (hC e1_39.2.2.2) rfl ?_
      refine XS.iconst X37_.here hx rfl (hC e1_43.1) ?_
      exact kK
    obtain ⟨_, _, ⟨T43_, L43_, k43_, n43_⟩, -, Xa43_, hSa43_, hga43_, ⟨Lc43_, hQ43_, l43_, y43_, z43_, hC43_⟩, st43_⟩ := callSS X37_ hx (y := jy21) hown (jm hZ hw 7 rfl) (jm hZ hw 8 rfl) (jm hZ hw 5 rfl) (jm hZ hw 9 rfl) (by decide) (own_backSY (W := 5) (rm_idc lL Z a0 hw [] x (1 : Int32) cs fv h37_ n0 (Nat.le_trans Z0 K37_.1) fc38_ Scs ncs Sfv rfv) hZ (jk hw 9 rfl) (jk hw 5 rfl) (by decide) (by decide) (own_EW hw) CH37_.1 own_y0) (g := (mkF mM 44 ll1 [(.int (1 : Int32)), (.int x), (.int (1 : Int32)), (.ref b30_), (.ref b30_), (.ref b28_), (.ref b28_)])) rfl (by rw [hml]; rfl) (argsL := [(.int x), (.int (1 : Int32))]) (rest := [(.int (1 : Int32)), (.ref b30_), (.ref b30_), (.ref b28_), (.ref b28_)]) (lenOf own_pd15 rfl) rfl (by show 2 * 0 + _ ≤ _; exact Nat.le_of_eq rfl) (hC e1_43.2.1) (fun _ _ => ⟨rfl, e37_, (by decide : 4 + 2 ≤ _), (by decide : 274 + 268 ≤ _)⟩)
    dsimp only [Pt.U, Pt.locs, Pt.cells, Pt.slots] at Xa43_ hSa43_ hga43_ l43_ y43_ z43_ st43_ hQ43_ hC43_
    subst l43_ y43_ z43_
    obtain ⟨X43_, hS43_, hZ, hown⟩ := rebS hS1_ (own_hk e37_ hk37_) Xa43_ hSa43_ hga43_ hZ hown
    obtain ⟨rfl, N43_q, p43__0⟩ := hQ43_
    have N43_ := Fr.app N37_ N43_q
    have sf44_ := hC43_.safe fc39_.lt sf42_
    have fc45_ := fc38_.keep p43__0 all0
    have fc46_ := fc39_.keep p43__0
    have fc47_ := fc40_.keep p43__0 nin0
    have fc48_ := fc41_.keep p43__0 nin0
    have fc49_ := U37_.keep p43__0 nin0
    have K43_ := K37_.trans p43__0 all0
    have CH43_ := CH37_.trans hC43_
    have hk43_ : T43_.heap.size ≤ T43_.heap.size := Nat.le_refl _
    refine own_fin (fun tT kK => st43_.trans kK) ?_
    obtain ⟨cl50_, Ar50_, Sz50_, Nn50_, Hh50_⟩ := id fc49_
    have hin50_ : ¬ ((1 : Int32) < 0 ∨ cl50_.slots.size ≤ ((1 : Int32)).toNatClampNeg) := inb_of Sz50_ ⟨by decide, by decide⟩
    obtain ⟨T50_, h50_, X50_, e50_, W50_, st50_⟩ := stC X43_ hx hZ rfl Ar50_ (j := (1 : Int32)) hin50_ (g := (mkF mM 47 ll1 [(.int (own_idc x (1 : Int32))), (.int (1 : Int32)), (.ref b30_), (.ref b30_), (.ref b28_), (.ref b28_)])) rfl rfl (hC e1_43.2.2.1)
    have U50_ : own_T Z h50_ b30_ .char (2 : Int32) (own_up (own_up (fun _ => (0 : Int32)) (0 : Int32) (nar .char (own_idc x (0 : Int32)))) (1 : Int32) (nar .char (own_idc x (1 : Int32)))) := own_T.set ⟨cl50_, Ar50_, Sz50_, Nn50_, Hh50_⟩ W50_ ⟨by decide, by decide⟩
    have fc51_ := fc45_.wr W50_ ge_b30_
    have fc52_ := fc46_.wr W50_
    have fc53_ := fc47_.other W50_ (Or.inl ne31_)
    have fc54_ := fc48_.other W50_ (Or.inl ne31_)
    have sw50_ : Safe Z own_EL T43_.vm T43_.heap b30_ := (own_T.safe (EL := own_EL) hZ.alike fc49_ (by decide))
    have Cs50_ : CHr Z own_EL T43_.vm T43_.heap T43_.vm h50_ := CHr.wr W50_ sw50_ CH43_.1
    have sf55_ := Safe.wr W50_ sw50_ CH43_.1 sf44_
    have CH50_ := CH43_.trans Cs50_
    have hk50_ := Nat.le_trans hk43_ Cs50_.2.1
    have K50_ := K43_.wr W50_ (Or.inr sz_b30_)
    have N50_ := Fr.snoc X50_ N43_ ge_b30_
    refine own_fin st50_ ?_
    have sk56_ : ∀ x ∈ ([b28_] : List Addr), Safe Z own_EL T43_.vm h50_ x := (sfS sf55_ sf0)
    refine own_sb X50_ hx hZ (y := jy11) rfl hown (jk hw 48 rfl) (jk hw 49 rfl) (jk hw 50 rfl) (jk hw 11 rfl) (rm_str lL Z a0 hw [] b28_ b30_ (2 : Int32) (own_up (own_up (fun _ => (0 : Int32)) (0 : Int32) (nar .char (own_idc x (0 : Int32)))) (1 : Int32) (nar .char (own_idc x (1 : Int32)))) cs h50_ n0 (Nat.le_trans Z0 K50_.1) fc51_ Scs ncs fc52_ fc53_ fc54_ ge_b28_ U50_ (fun j _ => (own_upB (own_upB own_z0 (own_ncb (own_idb _ _))) (own_ncb (own_idb _ _))) j) (by decide) (by decide) (Ne.symm ne31_)) (a := b28_) e50_ own_pd17 [(.ref b30_)] [(.ref b28_)] (hC e1_43.2.2.2) rfl rfl (by rw [hml]; rfl) (by decide) 1 (Nat.le_of_eq rfl) (by decide) (by decide) (by decide : 6 + 1 ≤ _) (by decide : 542 + 2 ≤ _) fun vv57_ T57_ L57_ X57_ hQ57_ => ?_
    obtain ⟨b_57_, rfl, N57_q, p57__0, p57__1, p57__2, p57__3, p57__4, p57__5⟩ := hQ57_
    have N57_ := Fr.app N50_ N57_q
    have K57_ := K50_.trans p57__0 (allS (Or.inr sz_b28_) all0)
    have Cs57_ : CHr Z own_EL T43_.vm h50_ T43_.vm T57_.heap := CHr.keep p57__0 sk56_ CH50_.1
    have sf63_ := Safe.keep p57__0 sk56_ CH50_.1 sf55_
    have CH57_ := CH50_.trans Cs57_
    have hk57_ := Nat.le_trans hk50_ Cs57_.2.1
    obtain ⟨fs, hr, hrun, hended, hE1, hE2, hE3, hE4⟩ := X57_.leaveW hS43_ (own_hk rfl hk57_) (v := some (.ref b28_)) (fun h => by rw [Bd.returns] at h; cases h)
    refine ⟨_, _, ?_, hrun, hended, _, _, rfl, ?_, own_CHe (T := T57_) (vm1 := T57_.vm) hh rfl (CH57_.trans (CHv.at X57_ hZ (own_EW hw) CH57_.1)), hE1, hE2, hE3, hE4.mono (by decide) (by decide)⟩
    · show Steps pP.tables eE below (T57_.setTop (mkF mM 51 ll1 [(.ref b28_)])) _
      exact retOut X57_ hx Bd.returns rfl (Or.inr (Or.inr (Or.inr (Or.inr ⟨rfl, rfl, rfl⟩)))) (hC d1_51) hr
    · show Q_rm_id Z x cs fv h0 n0 _ T57_.heap _
      exact ⟨b28_, b_57_, (2 : Int32), (fun j => ((own_up (own_up (fun _ => (0 : Int32)) (0 : Int32) (nar .char (own_idc x (0 : Int32)))) (1 : Int32) (nar .char (own_idc x (1 : Int32)))) j).toInt8.toInt32), rfl, N57_, K57_, sz_b28_, p57__2, p57__3, p57__4, p57__5, own_s2 ((own_il12 x).resolve_left hc11_4_) (own_idb _ _) (own_idb _ _)⟩
theorem e15_0 : jD26 0 (.iload_n 0, 1) ∧ jD26 1 (.invokestatic 28, 3) ∧ jD26 4 (.istore_n 1, 1) ∧ jD26 5 (.iload_n 1, 1) := by decide +kernel
theorem e15_6 : jD26 6 (.ifCond .ne 14, 3) ∧ jD26 9 (.new 10, 3) ∧ jD26 12 (.dup, 1) ∧ jD26 13 (.iconst 0, 1) := by decide +kernel
theorem e15_14 : jD26 14 (.newarray .char, 2) ∧ jD26 16 (.invokespecial 25, 3) ∧ jD26 19 (.areturn, 1) ∧ jD26 20 (.iload_n 1, 1) := by decide +kernel
theorem e15_21 : jD26 21 (.iconst 1, 1) ∧ jD26 22 (.if_icmp .ne 22, 3) ∧ jD26 25 (.new 10, 3) ∧ jD26 28 (.dup, 1) := by decide +kernel
theorem e15_29 : jD26 29 (.iconst 1, 1) ∧ jD26 30 (.newarray .char, 2) ∧ jD26 32 (.dup, 1) ∧ jD26 33 (.iconst 0, 1) := by decide +kernel
theorem e15_34 : jD26 34 (.iload_n 0, 1) ∧ jD26 35 (.iconst 0, 1) ∧ jD26 36 (.invokestatic 31, 3) ∧ jD26 39 (.castore, 1) := by decide +kernel
theorem e15_40 : jD26 40 (.invokespecial 25, 3) ∧ jD26 43 (.areturn, 1) ∧ jD26 44 (.new 10, 3) ∧ jD26 47 (.dup, 1) := by decide +kernel
theorem e15_48 : jD26 48 (.iconst 2, 1) ∧ jD26 49 (.newarray .char, 2) ∧ jD26 51 (.dup, 1) ∧ jD26 52 (.iconst 0, 1) := by decide +kernel
theorem e15_53 : jD26 53 (.iload_n 0, 1) ∧ jD26 54 (.iconst 0, 1) ∧ jD26 55 (.invokestatic 31, 3) ∧ jD26 58 (.castore, 1) := by decide +kernel
theorem e15_59 : jD26 59 (.dup, 1) ∧ jD26 60 (.iconst 1, 1) ∧ jD26 61 (.iload_n 0, 1) ∧ jD26 62 (.iconst 1, 1) := by decide +kernel
theorem e15_63 : jD26 63 (.invokestatic 31, 3) ∧ jD26 66 (.castore, 1) ∧ jD26 67 (.invokespecial 25, 3) ∧ jD26 70 (.areturn, 1) := by decide +kernel
theorem own_ef_rm_py (mM : MethodId) (x0 : Int32) : entryFrame mM #[(.int x0)] 2 = mkF mM 0 #[.val (.int x0), .unset] [] := by first | (simp [entryFrame, mkF, argsToLocals, Value.category]; done) | rfl
def Q_rm_py (Z : State) (y : Int32) (cs : Int32) (h0 : Heap) (n0 : Nat) (vV : Option Value) (hH : Heap) (lA : List Loc) : Prop := ∃ s' : Addr, ∃ t' : Addr, ∃ z' : Int32, ∃ f' : Int32 → Int32, vV = some (.ref s') ∧ Fr n0 lA ∧ (Keep h0 hH []) ∧ (h0.size ≤ s') ∧ (jE0 Z hH s') ∧ (jF1 Z hH s' (.ref t')) ∧ (jF0 Z hH s' (.int (0 : Int32))) ∧ (own_T Z hH t' .byte z' f') ∧ (own_is z' f' (own_pl y) (own_pc y (0 : Int32)) (own_pc y (1 : Int32)))
set_option maxRecDepth 65536 in
set_option maxHeartbeats 40000000 in
theorem rm_py (lL : Launch) (Z : State) (a0 : Array Value) (hw : own_H a0 Z) (ws : List Jvm.Cond) (y : Int32) (cs : Int32) (h0 : Heap) (n0 : Nat) (Z0 : n0 ≤ h0.size) (Oo : Old Z n0 h0) (Scs : Sta Z Z.heap "java/lang/String" "COMPACT_STRINGS" "Z" (.int cs)) (ncs : ¬ (cs = (0 : Int32))) :
    MetFree lL jy26 (head1 (Jvm.Cond.code jy26 method_8_code 2 (some (.object "java/lang/String")) :: ws) jr15) (fun aA uU => aA = #[(.int y)] ∧ Z.Warmed39 uU.vm ∧ uU.heap = h0 ∧ CHv Z own_EL uU.vm h0 ∧ ∀ x ∈ ([] : List Addr), Safe Z own_EL uU.vm h0 x) (fun _ _ _ _ _ => True) (fun _ uU oO uU' => ∃ vV lA, oO = .returned vV ∧ Q_rm_py Z y cs h0 n0 vV uU'.heap lA ∧ CHr Z own_EL uU.vm uU.heap uU'.vm uU'.heap ∧ ReturnedEndW uU oO uU' lA jr15.cells jr15.slots) := by
  refine MetFree.of_bodySF (plainFor_of_name own_pn_com_example_waldrapp_waldrapp_IntentEqualsPinLaw) hisR ?_
  intro pP eE sS mM args below meth cC s₁ Bd hml0 hP hK
  obtain ⟨rfl, hZ, hh, hC0, hY0⟩ := hP
  have hx := Bd.exec
  have hby := Bd.bytes
  have hC := @Jvm.hb _ _ hby
  have hml : cC.maxLocals = 2 := hml0
  have hown : sS.vm.findClass "com/example/waldrapp/waldrapp/IntentEqualsPinLaw" = some mM.cls := findClass_of_methodNamed Bd.named
  have hnm := (name_of_methodNamed Bd.named Bd.method).1
  have X0 : Stand pP lL eE jr15 (sS.setVm sS.vm) mM #[(.int y)] below meth cC s₁ [] 0 0 := Stand.of_body Bd
  have hS0 : sS.Since sS.vm 0 := (State.WarmedH.refl sS).since 0
  have hk0 : 0 ≤ h0.size := Nat.zero_le _
  have CH0 : CHr Z own_EL sS.vm h0 sS.vm h0 := CHr.refl hC0
  have e0 : s₁.heap = h0 := by rw [← hh, Bd.state]; rfl
  have N0 := Fr.nil n0
  have K0 := Keep.refl h0 ([] : List Addr)
  show own_Fin pP eE below (fun tT oO => ∃ vV lA, oO = .returned vV ∧ Q_rm_py Z y cs h0 n0 vV tT.heap lA ∧ CHr Z own_EL sS.vm sS.heap tT.vm tT.heap ∧ ReturnedEndW sS oO tT lA jr15.cells jr15.slots) (s₁.setTop (entryFrame mM #[(.int y)] 2))
  refine own_fin (b := s₁.setTop (mkF mM 0 #[.val (.int y), .unset] [])) (fun tT kK => castTop (own_ef_rm_py mM y) kK) ?_
  refine jg s₁ mM 1 #[vI y, vU] [(.int y)] (fun tT kK => ?_) ?_
  · refine XS.iloadN X0.here hx rfl (hC e15_0.1) rfl ?_
    exact kK
  refine jc X0 hx hZ (y := jy23) hown (jk hw 71 rfl) (jk hw 72 rfl) (jk hw 5 rfl) (jk hw 73 rfl) (rm_pl lL Z a0 hw [] y h0 n0 (Nat.le_trans Z0 K0.1) ) e0 own_pd16 [(.int y)] [] (hC e15_0.2.1) rfl rfl (by rw [hml]; rfl) (by decide) 0 (Nat.le_of_eq rfl) (by decide) (by decide) (by decide : 0 + 0 ≤ _) (by decide : 0 + 0 ≤ _) fun vv1_ T1_ L1_ X1_ hQ1_ => ?_
  obtain ⟨rfl, N1_q, p1__0⟩ := hQ1_
  have N1_ := Fr.app N0 N1_q
  refine jg T1_ mM 6 #[vI y, vI (own_pl y)] [(.int (own_pl y))] (fun tT kK => ?_) ?_
  · refine XS.istoreN X1_.here hx rfl (hC e15_0.2.2.1) rfl (l' := #[vI y, vI (own_pl y)]) rfl ?_
    refine XS.iloadN X1_.here hx rfl (hC e15_0.2.2.2) rfl ?_
    exact kK
  by_cases hc6_2_ : (own_pl y) = (0 : Int32)
  · refine jg T1_ mM 9 #[vI y, vI (own_pl y)] [] (fun tT kK => ?_) ?_
    · refine XS.ifNo X1_.here hx rfl (hC e15_6.1) rfl ((if0 _ _).trans (teq (hc6_2_ : (own_pl y) = (0 : Int32))).2) ?_
      exact kK
    obtain ⟨T3_, h3_, X3_, e3_, E3_, A3_, D3_, -, st3_⟩ := newO X1_ hx hZ hown (jk hw 46 rfl) (jk hw 12 rfl) (jk hw 11 rfl) p1__0 (g := (mkF mM 9 #[vI y, vI (own_pl y)] [])) rfl (hC e15_6.2.1) (by decide) (by decide)
    obtain ⟨b3_, g3_⟩ : ∃ z, z = h0.size := ⟨_, rfl⟩
    rw [← g3_] at A3_ D3_ st3_
    have sz_b3_ : h0.size ≤ b3_ := Nat.le_trans K0.1 (Nat.le_of_eq g3_.symm)
    have ge_b3_ : n0 ≤ b3_ := Nat.le_trans Z0 sz_b3_
    have Cs3_ : CHr Z own_EL sS.vm h0 sS.vm h3_ := CHr.ext E3_ CH0.1
    have CH3_ := CH0.trans Cs3_
    have hk3_ := Nat.le_trans hk0 Cs3_.2.1
    have K3_ := K0.ext E3_
    have sf3_ : Safe Z own_EL sS.vm h3_ b3_ := Safe.ext E3_ CH0.1 (Safe.new (Nat.le_of_eq g3_.symm))
    have F3__value : jF1 Z h3_ b3_ .null := D3_ (Or.inr (jk hw 14 rfl)) (ty := (.array .byte)) (by decide)
    have F3__coder : jF0 Z h3_ b3_ (.int (0 : Int32)) := D3_ (Or.inr (jk hw 15 rfl)) (ty := .byte) (by decide)
    refine own_fin st3_ ?_
    refine jg T3_ mM 14 #[vI y, vI (own_pl y)] [(.int (0 : Int32)), (.ref b3_), (.ref b3_)] (fun tT kK => ?_) ?_
    · refine XS.dup X3_.here hx rfl (hC e15_6.2.2.1) rfl rfl ?_
      refine XS.iconst X3_.here hx rfl (hC e15_6.2.2.2) ?_
      exact kK
    obtain ⟨T5_, h5_, k5_, X5_, e5_, E5_, A5_, st5_⟩ := newP X3_ hx hZ (jk hw 47 rfl) e3_ (g := (mkF mM 14 #[vI y, vI (own_pl y)] [(.int (0 : Int32)), (.ref b3_), (.ref b3_)])) rfl (hC e15_14.1) rfl (by decide) (cap := 0) (by decide) (by decide) (by decide) (by decide)
    obtain ⟨b5_, g5_⟩ : ∃ z, z = h3_.size := ⟨_, rfl⟩
    rw [← g5_] at A5_ st5_
    have ne6_ : b3_ ≠ b5_ := Nat.ne_of_lt (Nat.lt_of_lt_of_le A3_.lt (Nat.le_of_eq g5_.symm))
    have fc8_ := A3_.ext E5_
    have fc9_ := F3__value.ext E5_
    have fc10_ := F3__coder.ext E5_
    have Cs5_ : CHr Z own_EL sS.vm h3_ sS.vm h5_ := CHr.ext E5_ CH3_.1
    have sf11_ := Safe.ext E5_ CH3_.1 sf3_
    have CH5_ := CH3_.trans Cs5_
    have hk5_ := Nat.le_trans hk3_ Cs5_.2.1
    have K5_ := K3_.ext E5_
    have V5_ : own_T Z h5_ b5_ .char (0 : Int32) (fun _ => (0 : Int32)) := own_T.new A5_ (by decide) rfl
    refine own_fin st5_ ?_
    obtain ⟨_, _, ⟨T12_, L12_, k12_, n12_⟩, -, Xa12_, hSa12_, hga12_, ⟨Lc12_, hQ12_, l12_, y12_, z12_, hC12_⟩, st12_⟩ := X5_.specialBackS hx (y := jy11) rfl hown (jm hZ hw 48 rfl) (jm hZ hw 49 rfl) (jm hZ hw 50 rfl) (by decide) (own_backSY (W := 1) (rm_e0 lL Z a0 hw [] b3_ b5_ (fun _ => (0 : Int32)) h5_ n0 (Nat.le_trans Z0 K5_.1) fc8_ fc9_ fc10_ ge_b3_ V5_ (Ne.symm ne6_)) hZ (jk hw 50 rfl) (jk hw 11 rfl) (by decide) (by decide) (own_EW hw) CH5_.1 (own_yS fc8_.lt sf11_ own_y0)) (g := (mkF mM 16 #[vI y, vI (own_pl y)] [(.ref b5_), (.ref b3_), (.ref b3_)])) rfl (by rw [hml]; rfl) (Steps.refl _) (a := b3_) (argsL := [(.ref b5_)]) (rest := [(.ref b3_)]) (lenOf own_pd17 rfl) rfl (by show 2 * 0 + _ ≤ _; exact Nat.le_of_eq rfl) (hC e15_14.2.1) (fun _ _ => ⟨rfl, e5_, (by decide : 2 + 4 ≤ _), (by decide : 4 + 8 ≤ _)⟩)
    dsimp only [Pt.U, Pt.locs, Pt.cells, Pt.slots] at Xa12_ hSa12_ hga12_ l12_ y12_ z12_ st12_ hQ12_ hC12_
    subst l12_ y12_ z12_
    obtain ⟨X12_, hS12_, hZ, hown⟩ := rebS hS0 (own_hk e5_ hk5_) Xa12_ hSa12_ hga12_ hZ hown
    obtain ⟨t'_12_, rfl, N12_q, p12__0, p12__1, p12__2, p12__3, p12__4⟩ := hQ12_
    have N12_ := Fr.app N1_ N12_q
    have sf13_ := hC12_.safe fc8_.lt sf11_
    have K12_ := K5_.trans p12__0 (allS (Or.inr sz_b3_) all0)
    have CH12_ := CH5_.trans hC12_
    have hk12_ : T12_.heap.size ≤ T12_.heap.size := Nat.le_refl _
    refine own_fin (fun tT kK => st12_.trans kK) ?_
    obtain ⟨fs, hr, hrun, hended, hE1, hE2, hE3, hE4⟩ := X12_.leaveW hS12_ (own_hk rfl hk12_) (v := some (.ref b3_)) (fun h => by rw [Bd.returns] at h; cases h)
    refine ⟨_, _, ?_, hrun, hended, _, _, rfl, ?_, own_CHe (T := T12_) (vm1 := T12_.vm) hh rfl (CH12_.trans (CHv.at X12_ hZ (own_EW hw) CH12_.1)), hE1, hE2, hE3, hE4.mono (by decide) (by decide)⟩
    · show Steps pP.tables eE below (T12_.setTop (mkF mM 19 #[vI y, vI (own_pl y)] [(.ref b3_)])) _
      exact retOut X12_ hx Bd.returns rfl (Or.inr (Or.inr (Or.inr (Or.inr ⟨rfl, rfl, rfl⟩)))) (hC e15_14.2.2.1) hr
    · show Q_rm_py Z y cs h0 n0 _ T12_.heap _
      exact ⟨b3_, t'_12_, (0 : Int32), (own_li []), rfl, N12_, K12_, sz_b3_, p12__1, p12__2, p12__3, p12__4, own_s0 hc6_2_⟩
  · refine jg T1_ mM 22 #[vI y, vI (own_pl y)] [(.int (1 : Int32)), (.int (own_pl y))] (fun tT kK => ?_) ?_
    · refine XS.ifYes X1_.here hx rfl (pc0 := 6) (pc' := 20) rfl (hC e15_6.1) rfl ((if0 _ _).trans (feq (hc6_2_ : ¬ ((own_pl y) = (0 : Int32)))).2) (by decide) (by decide) ?_
      refine XS.iloadN X1_.here hx rfl (hC e15_14.2.2.2) rfl ?_
      refine XS.iconst X1_.here hx rfl (hC e15_21.1) ?_
      exact kK
    by_cases hc22_17_ : (own_pl y) = (1 : Int32)
    · refine jg T1_ mM 25 #[vI y, vI (own_pl y)] [] (fun tT kK => ?_) ?_
      · refine XS.icmpNo X1_.here hx rfl (hC e15_21.2.1) rfl (teq (hc22_17_ : (own_pl y) = (1 : Int32))).2 ?_
        exact kK
      obtain ⟨T18_, h18_, X18_, e18_, E18_, A18_, D18_, -, st18_⟩ := newO X1_ hx hZ hown (jk hw 46 rfl) (jk hw 12 rfl) (jk hw 11 rfl) p1__0 (g := (mkF mM 25 #[vI y, vI (own_pl y)] [])) rfl (hC e15_21.2.2.1) (by decide) (by decide)
      obtain ⟨b18_, g18_⟩ : ∃ z, z = h0.size := ⟨_, rfl⟩
      rw [← g18_] at A18_ D18_ st18_
      have sz_b18_ : h0.size ≤ b18_ := Nat.le_trans K0.1 (Nat.le_of_eq g18_.symm)
      have ge_b18_ : n0 ≤ b18_ := Nat.le_trans Z0 sz_b18_
      have fc19_ := Oo.ext E18_
      have Cs18_ : CHr Z own_EL sS.vm h0 sS.vm h18_ := CHr.ext E18_ CH0.1
      have CH18_ := CH0.trans Cs18_
      have hk18_ := Nat.le_trans hk0 Cs18_.2.1
      have K18_ := K0.ext E18_
      have sf18_ : Safe Z own_EL sS.vm h18_ b18_ := Safe.ext E18_ CH0.1 (Safe.new (Nat.le_of_eq g18_.symm))
      have F18__value : jF1 Z h18_ b18_ .null := D18_ (Or.inr (jk hw 14 rfl)) (ty := (.array .byte)) (by decide)
      have F18__coder : jF0 Z h18_ b18_ (.int (0 : Int32)) := D18_ (Or.inr (jk hw 15 rfl)) (ty := .byte) (by decide)
      refine own_fin st18_ ?_
      refine jg T18_ mM 30 #[vI y, vI (own_pl y)] [(.int (1 : Int32)), (.ref b18_), (.ref b18_)] (fun tT kK => ?_) ?_
      · refine XS.dup X18_.here hx rfl (hC e15_21.2.2.2) rfl rfl ?_
        refine XS.iconst X18_.here hx rfl (hC e15_29.1) ?_
        exact kK
      obtain ⟨T20_, h20_, k20_, X20_, e20_, E20_, A20_, st20_⟩ := newP X18_ hx hZ (jk hw 47 rfl) e18_ (g := (mkF mM 30 #[vI y, vI (own_pl y)] [(.int (1 : Int32)), (.ref b18_), (.ref b18_)])) rfl (hC e15_29.2.1) rfl (by decide) (cap := 1) (by decide) (by decide) (by decide) (by decide)
      obtain ⟨b20_, g20_⟩ : ∃ z, z = h18_.size := ⟨_, rfl⟩
      rw [← g20_] at A20_ st20_
      have sz_b20_ : h0.size ≤ b20_ := Nat.le_trans K18_.1 (Nat.le_of_eq g20_.symm)
      have ge_b20_ : n0 ≤ b20_ := Nat.le_trans Z0 sz_b20_
      have ne21_ : b18_ ≠ b20_ := Nat.ne_of_lt (Nat.lt_of_lt_of_le A18_.lt (Nat.le_of_eq g20_.symm))
      have fc22_ := fc19_.ext E20_
      have fc23_ := A18_.ext E20_
      have fc24_ := F18__value.ext E20_
      have fc25_ := F18__coder.ext E20_
      have Cs20_ : CHr Z own_EL sS.vm h18_ sS.vm h20_ := CHr.ext E20_ CH18_.1
      have sf26_ := Safe.ext E20_ CH18_.1 sf18_
      have CH20_ := CH18_.trans Cs20_
      have hk20_ := Nat.le_trans hk18_ Cs20_.2.1
      have K20_ := K18_.ext E20_
      have V20_ : own_T Z h20_ b20_ .char (1 : Int32) (fun _ => (0 : Int32)) := own_T.new A20_ (by decide) rfl
      refine own_fin st20_ ?_
      refine jg T20_ mM 36 #[vI y, vI (own_pl y)] [(.int (0 : Int32)), (.int y), (.int (0 : Int32)), (.ref b20_), (.ref b20_), (.ref b18_), (.ref b18_)] (fun tT kK => ?_) ?_
      · refine XS.dup X20_.here hx rfl (hC e15_29.2.2.1) rfl rfl ?_
        refine XS.iconst X20_.here hx rfl (hC e15_29.2.2.2) ?_
        refine XS.iloadN X20_.here hx rfl (hC e15_34.1) rfl ?_
        refine XS.iconst X20_.here hx rfl (hC e15_34.2.1) ?_
        exact kK
      refine jc X20_ hx hZ (y := jy24) hown (jk hw 176 rfl) (jk hw 177 rfl) (jk hw 5 rfl) (jk hw 178 rfl) (rm_pc lL Z a0 hw [] y (0 : Int32) h20_ n0 (Nat.le_trans Z0 K20_.1) ) e20_ own_pd15 [(.int y), (.int (0 : Int32))] [(.int (0 : Int32)), (.ref b20_), (.ref b20_), (.ref b18_), (.ref b18_)] (hC e15_34.2.2.1) rfl rfl (by rw [hml]; rfl) (by decide) 5 (Nat.le_of_eq rfl) (by decide) (by decide) (by decide : 2 + 0 ≤ _) (by decide : 5 + 0 ≤ _) fun vv27_ T27_ L27_ X27_ hQ27_ => ?_
      obtain ⟨rfl, N27_q, p27__0⟩ := hQ27_
      have N27_ := Fr.app N1_ N27_q
      obtain ⟨cl28_, Ar28_, Sz28_, Nn28_, Hh28_⟩ := id V20_
      have hin28_ : ¬ ((0 : Int32) < 0 ∨ cl28_.slots.size ≤ ((0 : Int32)).toNatClampNeg) := inb_of Sz28_ ⟨by decide, by decide⟩
      obtain ⟨T28_, h28_, X28_, e28_, W28_, st28_⟩ := stC X27_ hx hZ p27__0 Ar28_ (j := (0 : Int32)) hin28_ (g := (mkF mM 39 #[vI y, vI (own_pl y)] [(.int (own_pc y (0 : Int32))), (.int (0 : Int32)), (.ref b20_), (.ref b20_), (.ref b18_), (.ref b18_)])) rfl rfl (hC e15_34.2.2.2)
      have U28_ : own_T Z h28_ b20_ .char (1 : Int32) (own_up (fun _ => (0 : Int32)) (0 : Int32) (nar .char (own_pc y (0 : Int32)))) := own_T.set ⟨cl28_, Ar28_, Sz28_, Nn28_, Hh28_⟩ W28_ ⟨by decide, by decide⟩
      have fc29_ := fc22_.wr W28_ ge_b20_
      have fc30_ := fc23_.wr W28_
      have fc31_ := fc24_.other W28_ (Or.inl ne21_)
      have fc32_ := fc25_.other W28_ (Or.inl ne21_)
      have sw28_ : Safe Z own_EL sS.vm h20_ b20_ := (own_T.safe (EL := own_EL) hZ.alike V20_ (by decide))
      have Cs28_ : CHr Z own_EL sS.vm h20_ sS.vm h28_ := CHr.wr W28_ sw28_ CH20_.1
      have sf33_ := Safe.wr W28_ sw28_ CH20_.1 sf26_
      have CH28_ := CH20_.trans Cs28_
      have hk28_ := Nat.le_trans hk20_ Cs28_.2.1
      have K28_ := K20_.wr W28_ (Or.inr sz_b20_)
      have N28_ := Fr.snoc X28_ N27_ ge_b20_
      refine own_fin st28_ ?_
      have sk34_ : ∀ x ∈ ([b18_] : List Addr), Safe Z own_EL sS.vm h28_ x := (sfS sf33_ sf0)
      refine own_sb X28_ hx hZ (y := jy11) rfl hown (jk hw 48 rfl) (jk hw 49 rfl) (jk hw 50 rfl) (jk hw 11 rfl) (rm_str lL Z a0 hw [] b18_ b20_ (1 : Int32) (own_up (fun _ => (0 : Int32)) (0 : Int32) (nar .char (own_pc y (0 : Int32)))) cs h28_ n0 (Nat.le_trans Z0 K28_.1) fc29_ Scs ncs fc30_ fc31_ fc32_ ge_b18_ U28_ (fun j _ => (own_upB own_z0 (own_ncb ⟨(own_pcb _ _).1, (own_pcb _ _).2.1⟩)) j) (by decide) (by decide) (Ne.symm ne21_)) (a := b18_) e28_ own_pd17 [(.ref b20_)] [(.ref b18_)] (hC e15_40.1) rfl rfl (by rw [hml]; rfl) (by decide) 1 (Nat.le_of_eq rfl) (by decide) (by decide) (by decide : 2 + 1 ≤ _) (by decide : 5 + 2 ≤ _) fun vv35_ T35_ L35_ X35_ hQ35_ => ?_
      obtain ⟨b_35_, rfl, N35_q, p35__0, p35__1, p35__2, p35__3, p35__4, p35__5⟩ := hQ35_
      have N35_ := Fr.app N28_ N35_q
      have K35_ := K28_.trans p35__0 (allS (Or.inr sz_b18_) all0)
      have Cs35_ : CHr Z own_EL sS.vm h28_ sS.vm T35_.heap := CHr.keep p35__0 sk34_ CH28_.1
      have sf41_ := Safe.keep p35__0 sk34_ CH28_.1 sf33_
      have CH35_ := CH28_.trans Cs35_
      have hk35_ := Nat.le_trans hk28_ Cs35_.2.1
      obtain ⟨fs, hr, hrun, hended, hE1, hE2, hE3, hE4⟩ := X35_.leaveW hS0 (own_hk rfl hk35_) (v := some (.ref b18_)) (fun h => by rw [Bd.returns] at h; cases h)
      refine ⟨_, _, ?_, hrun, hended, _, _, rfl, ?_, own_CHe (T := T35_) (vm1 := T35_.vm) hh rfl (CH35_.trans (CHv.at X35_ hZ (own_EW hw) CH35_.1)), hE1, hE2, hE3, hE4.mono (by decide) (by decide)⟩
      · show Steps pP.tables eE below (T35_.setTop (mkF mM 43 #[vI y, vI (own_pl y)] [(.ref b18_)])) _
        exact retOut X35_ hx Bd.returns rfl (Or.inr (Or.inr (Or.inr (Or.inr ⟨rfl, rfl, rfl⟩)))) (hC e15_40.2.1) hr
      · show Q_rm_py Z y cs h0 n0 _ T35_.heap _
        exact ⟨b18_, b_35_, (1 : Int32), (fun j => ((own_up (fun _ => (0 : Int32)) (0 : Int32) (nar .char (own_pc y (0 : Int32)))) j).toInt8.toInt32), rfl, N35_, K35_, sz_b18_, p35__2, p35__3, p35__4, p35__5, own_s1 (x := y) hc22_17_ ⟨(own_pcb _ _).1, (own_pcb _ _).2.1⟩⟩
    · refine jg T1_ mM 44 #[vI y, vI (own_pl y)] [] (fun tT kK => ?_) ?_
      · refine XS.icmpYes X1_.here hx rfl (pc0 := 22) (pc' := 44) rfl (hC e15_21.2.1) rfl (feq (hc22_17_ : ¬ ((own_pl y) = (1 : Int32)))).2 (by decide) (by decide) ?_
        exact kK
      obtain ⟨T42_, h42_, X42_, e42_, E42_, A42_, D42_, -, st42_⟩ := newO X1_ hx hZ hown (jk hw 46 rfl) (jk hw 12 rfl) (jk hw 11 rfl) p1__0 (g := (mkF mM 44 #[vI y, vI (own_pl y)] [])) rfl (hC e15_40.2.2.1) (by decide) (by decide)
      obtain ⟨b42_, g42_⟩ : ∃ z, z = h0.size := ⟨_, rfl⟩
      rw [← g42_] at A42_ D42_ st42_
      have sz_b42_ : h0.size ≤ b42_ := Nat.le_trans K0.1 (Nat.le_of_eq g42_.symm)
      have ge_b42_ : n0 ≤ b42_ := Nat.le_trans Z0 sz_b42_
      have fc43_ := Oo.ext E42_
      have Cs42_ : CHr Z own_EL sS.vm h0 sS.vm h42_ := CHr.ext E42_ CH0.1
      have CH42_ := CH0.trans Cs42_
      have hk42_ := Nat.le_trans hk0 Cs42_.2.1
      have K42_ := K0.ext E42_
      have sf42_ : Safe Z own_EL sS.vm h42_ b42_ := Safe.ext E42_ CH0.1 (Safe.new (Nat.le_of_eq g42_.symm))
      have F42__value : jF1 Z h42_ b42_ .null := D42_ (Or.inr (jk hw 14 rfl)) (ty := (.array .byte)) (by decide)
      have F42__coder : jF0 Z h42_ b42_ (.int (0 : Int32)) := D42_ (Or.inr (jk hw 15 rfl)) (ty := .byte) (by decide)
      refine own_fin st42_ ?_
      refine jg T42_ mM 49 #[vI y, vI (own_pl y)] [(.int (2 : Int32)), (.ref b42_), (.ref b42_)] (fun tT kK => ?_) ?_
      · refine XS.dup X42_.here hx rfl (hC e15_40.2.2.2) rfl rfl ?_
        refine XS.iconst X42_.here hx rfl (hC e15_48.1) ?_
        exact kK
      obtain ⟨T44_, h44_, k44_, X44_, e44_, E44_, A44_, st44_⟩ := newP X42_ hx hZ (jk hw 47 rfl) e42_ (g := (mkF mM 49 #[vI y, vI (own_pl y)] [(.int (2 : Int32)), (.ref b42_), (.ref b42_)])) rfl (hC e15_48.2.1) rfl (by decide) (cap := 2) (by decide) (by decide) (by decide) (by decide)
      obtain ⟨b44_, g44_⟩ : ∃ z, z = h42_.size := ⟨_, rfl⟩
      rw [← g44_] at A44_ st44_
      have sz_b44_ : h0.size ≤ b44_ := Nat.le_trans K42_.1 (Nat.le_of_eq g44_.symm)
      have ge_b44_ : n0 ≤ b44_ := Nat.le_trans Z0 sz_b44_
      have ne45_ : b42_ ≠ b44_ := Nat.ne_of_lt (Nat.lt_of_lt_of_le A42_.lt (Nat.le_of_eq g44_.symm))
      have fc46_ := fc43_.ext E44_
      have fc47_ := A42_.ext E44_
      have fc48_ := F42__value.ext E44_
      have fc49_ := F42__coder.ext E44_
      have Cs44_ : CHr Z own_EL sS.vm h42_ sS.vm h44_ := CHr.ext E44_ CH42_.1
      have sf50_ := Safe.ext E44_ CH42_.1 sf42_
      have CH44_ := CH42_.trans Cs44_
      have hk44_ := Nat.le_trans hk42_ Cs44_.2.1
      have K44_ := K42_.ext E44_
      have V44_ : own_T Z h44_ b44_ .char (2 : Int32) (fun _ => (0 : Int32)) := own_T.new A44_ (by decide) rfl
      refine own_fin st44_ ?_
      refine jg T44_ mM 55 #[vI y, vI (own_pl y)] [(.int (0 : Int32)), (.int y), (.int (0 : Int32)), (.ref b44_), (.ref b44_), (.ref b42_), (.ref b42_)] (fun tT kK => ?_) ?_
      · refine XS.dup X44_.here hx rfl (hC e15_48.2.2.1) rfl rfl ?_
        refine XS.iconst X44_.here hx rfl (hC e15_48.2.2.2) ?_
        refine XS.iloadN X44_.here hx rfl (hC e15_53.1) rfl ?_
        refine XS.iconst X44_.here hx rfl (hC e15_53.2.1) ?_
        exact kK
      refine jc X44_ hx hZ (y := jy24) hown (jk hw 176 rfl) (jk hw 177 rfl) (jk hw 5 rfl) (jk hw 178 rfl) (rm_pc lL Z a0 hw [] y (0 : Int32) h44_ n0 (Nat.le_trans Z0 K44_.1) ) e44_ own_pd15 [(.int y), (.int (0 : Int32))] [(.int (0 : Int32)), (.ref b44_), (.ref b44_), (.ref b42_), (.ref b42_)] (hC e15_53.2.2.1) rfl rfl (by rw [hml]; rfl) (by decide) 5 (Nat.le_of_eq rfl) (by decide) (by decide) (by decide : 2 + 0 ≤ _) (by decide : 6 + 0 ≤ _) fun vv51_ T51_ L51_ X51_ hQ51_ => ?_
      obtain ⟨rfl, N51_q, p51__0⟩ := hQ51_
      have N51_ := Fr.app N1_ N51_q
      obtain ⟨cl52_, Ar52_, Sz52_, Nn52_, Hh52_⟩ := id V44_
      have hin52_ : ¬ ((0 : Int32) < 0 ∨ cl52_.slots.size ≤ ((0 : Int32)).toNatClampNeg) := inb_of Sz52_ ⟨by decide, by decide⟩
      obtain ⟨T52_, h52_, X52_, e52_, W52_, st52_⟩ := stC X51_ hx hZ p51__0 Ar52_ (j := (0 : Int32)) hin52_ (g := (mkF mM 58 #[vI y, vI (own_pl y)] [(.int (own_pc y (0 : Int32))), (.int (0 : Int32)), (.ref b44_), (.ref b44_), (.ref b42_), (.ref b42_)])) rfl rfl (hC e15_53.2.2.2)
      have U52_ : own_T Z h52_ b44_ .char (2 : Int32) (own_up (fun _ => (0 : Int32)) (0 : Int32) (nar .char (own_pc y (0 : Int32)))) := own_T.set ⟨cl52_, Ar52_, Sz52_, Nn52_, Hh52_⟩ W52_ ⟨by decide, by decide⟩
      have fc53_ := fc46_.wr W52_ ge_b44_
      have fc54_ := fc47_.wr W52_
      have fc55_ := fc48_.other W52_ (Or.inl ne45_)
      have fc56_ := fc49_.other W52_ (Or.inl ne45_)
      have sw52_ : Safe Z own_EL sS.vm h44_ b44_ := (own_T.safe (EL := own_EL) hZ.alike V44_ (by decide))
      have Cs52_ : CHr Z own_EL sS.vm h44_ sS.vm h52_ := CHr.wr W52_ sw52_ CH44_.1
      have sf57_ := Safe.wr W52_ sw52_ CH44_.1 sf50_
      have CH52_ := CH44_.trans Cs52_
      have hk52_ := Nat.le_trans hk44_ Cs52_.2.1
      have K52_ := K44_.wr W52_ (Or.inr sz_b44_)
      have N52_ := Fr.snoc X52_ N51_ ge_b44_
      refine own_fin st52_ ?_
      refine jg T52_ mM 63 #[vI y, vI (own_pl y)] [(.int (1 : Int32)), (.int y), (.int (1 : Int32)), (.ref b44_), (.ref b44_), (.ref b42_), (.ref b42_)] (fun tT kK => ?_) ?_
      · refine XS.dup X52_.here hx rfl (hC e15_59.1) rfl rfl ?_
        refine XS.iconst X52_.here hx rfl (hC e15_59.2.1) ?_
        refine XS.iloadN X52_.here hx rfl (hC e15_59.2.2.1) rfl ?_
        refine XS.iconst X52_.here hx rfl (hC e15_59.2.2.2) ?_
        exact kK
      refine jc X52_ hx hZ (y := jy24) hown (jk hw 176 rfl) (jk hw 177 rfl) (jk hw 5 rfl) (jk hw 178 rfl) (rm_pc lL Z a0 hw [] y (1 : Int32) h52_ n0 (Nat.le_trans Z0 K52_.1) ) e52_ own_pd15 [(.int y), (.int (1 : Int32))] [(.int (1 : Int32)), (.ref b44_), (.ref b44_), (.ref b42_), (.ref b42_)] (hC e15_63.1) rfl rfl (by rw [hml]; rfl) (by decide) 5 (Nat.le_of_eq rfl) (by decide) (by decide) (by decide : 2 + 0 ≤ _) (by decide : 6 + 0 ≤ _) fun vv58_ T58_ L58_ X58_ hQ58_ => ?_
      obtain ⟨rfl, N58_q, p58__0⟩ := hQ58_
      have N58_ := Fr.app N52_ N58_q
      obtain ⟨cl59_, Ar59_, Sz59_, Nn59_, Hh59_⟩ := id U52_
      have hin59_ : ¬ ((1 : Int32) < 0 ∨ cl59_.slots.size ≤ ((1 : Int32)).toNatClampNeg) := inb_of Sz59_ ⟨by decide, by decide⟩
      obtain ⟨T59_, h59_, X59_, e59_, W59_, st59_⟩ := stC X58_ hx hZ p58__0 Ar59_ (j := (1 : Int32)) hin59_ (g := (mkF mM 66 #[vI y, vI (own_pl y)] [(.int (own_pc y (1 : Int32))), (.int (1 : Int32)), (.ref b44_), (.ref b44_), (.ref b42_), (.ref b42_)])) rfl rfl (hC e15_63.2.1)
      have U59_ : own_T Z h59_ b44_ .char (2 : Int32) (own_up (own_up (fun _ => (0 : Int32)) (0 : Int32) (nar .char (own_pc y (0 : Int32)))) (1 : Int32) (nar .char (own_pc y (1 : Int32)))) := own_T.set ⟨cl59_, Ar59_, Sz59_, Nn59_, Hh59_⟩ W59_ ⟨by decide, by decide⟩
      have fc60_ := fc53_.wr W59_ ge_b44_
      have fc61_ := fc54_.wr W59_
      have fc62_ := fc55_.other W59_ (Or.inl ne45_)
      have fc63_ := fc56_.other W59_ (Or.inl ne45_)
      have sw59_ : Safe Z own_EL sS.vm h52_ b44_ := (own_T.safe (EL := own_EL) hZ.alike U52_ (by decide))
      have Cs59_ : CHr Z own_EL sS.vm h52_ sS.vm h59_ := CHr.wr W59_ sw59_ CH52_.1
      have sf64_ := Safe.wr W59_ sw59_ CH52_.1 sf57_
      have CH59_ := CH52_.trans Cs59_
      have hk59_ := Nat.le_trans hk52_ Cs59_.2.1
      have K59_ := K52_.wr W59_ (Or.inr sz_b44_)
      have N59_ := Fr.snoc X59_ N58_ ge_b44_
      refine own_fin st59_ ?_
      have sk65_ : ∀ x ∈ ([b42_] : List Addr), Safe Z own_EL sS.vm h59_ x := (sfS sf64_ sf0)
      refine own_sb X59_ hx hZ (y := jy11) rfl hown (jk hw 48 rfl) (jk hw 49 rfl) (jk hw 50 rfl) (jk hw 11 rfl) (rm_str lL Z a0 hw [] b42_ b44_ (2 : Int32) (own_up (own_up (fun _ => (0 : Int32)) (0 : Int32) (nar .char (own_pc y (0 : Int32)))) (1 : Int32) (nar .char (own_pc y (1 : Int32)))) cs h59_ n0 (Nat.le_trans Z0 K59_.1) fc60_ Scs ncs fc61_ fc62_ fc63_ ge_b42_ U59_ (fun j _ => (own_upB (own_upB own_z0 (own_ncb ⟨(own_pcb _ _).1, (own_pcb _ _).2.1⟩)) (own_ncb ⟨(own_pcb _ _).1, (own_pcb _ _).2.1⟩)) j) (by decide) (by decide) (Ne.symm ne45_)) (a := b42_) e59_ own_pd17 [(.ref b44_)] [(.ref b42_)] (hC e15_63.2.2.1) rfl rfl (by rw [hml]; rfl) (by decide) 1 (Nat.le_of_eq rfl) (by decide) (by decide) (by decide : 2 + 1 ≤ _) (by decide : 6 + 2 ≤ _) fun vv66_ T66_ L66_ X66_ hQ66_ => ?_
      obtain ⟨b_66_, rfl, N66_q, p66__0, p66__1, p66__2, p66__3, p66__4, p66__5⟩ := hQ66_
      have N66_ := Fr.app N59_ N66_q
      have K66_ := K59_.trans p66__0 (allS (Or.inr sz_b42_) all0)
      have Cs66_ : CHr Z own_EL sS.vm h59_ sS.vm T66_.heap := CHr.keep p66__0 sk65_ CH59_.1
      have sf72_ := Safe.keep p66__0 sk65_ CH59_.1 sf64_
      have CH66_ := CH59_.trans Cs66_
      have hk66_ := Nat.le_trans hk59_ Cs66_.2.1
      obtain ⟨fs, hr, hrun, hended, hE1, hE2, hE3, hE4⟩ := X66_.leaveW hS0 (own_hk rfl hk66_) (v := some (.ref b42_)) (fun h => by rw [Bd.returns] at h; cases h)
      refine ⟨_, _, ?_, hrun, hended, _, _, rfl, ?_, own_CHe (T := T66_) (vm1 := T66_.vm) hh rfl (CH66_.trans (CHv.at X66_ hZ (own_EW hw) CH66_.1)), hE1, hE2, hE3, hE4.mono (by decide) (by decide)⟩
      · show Steps pP.tables eE below (T66_.setTop (mkF mM 70 #[vI y, vI (own_pl y)] [(.ref b42_)])) _
        exact retOut X66_ hx Bd.returns rfl (Or.inr (Or.inr (Or.inr (Or.inr ⟨rfl, rfl, rfl⟩)))) (hC e15_63.2.2.2) hr
      · show Q_rm_py Z y cs h0 n0 _ T66_.heap _
        exact ⟨b42_, b_66_, (2 : Int32), (fun j => ((own_up (own_up (fun _ => (0 : Int32)) (0 : Int32) (nar .char (own_pc y (0 : Int32)))) (1 : Int32) (nar .char (own_pc y (1 : Int32)))) j).toInt8.toInt32), rfl, N66_, K66_, sz_b42_, p66__2, p66__3, p66__4, p66__5, own_s2 (((own_pl012 y).resolve_left hc6_2_).resolve_left hc22_17_) ⟨(own_pcb _ _).1, (own_pcb _ _).2.1⟩ ⟨(own_pcb _ _).1, (own_pcb _ _).2.1⟩⟩
theorem e19_0 : jD27 0 (.aload_n 0, 1) ∧ jD27 1 (.getfield 9, 3) ∧ jD27 4 (.arraylength, 1) ∧ jD27 5 (.ifCond .ne 7, 3) := by decide +kernel
theorem e19_12 : jD27 12 (.iconst 0, 1) ∧ jD27 13 (.ireturn, 1) := by decide +kernel
theorem own_ef_rm_ie (mM : MethodId) (x0 : Addr) : entryFrame mM #[(.ref x0)] 1 = mkF mM 0 #[.val (.ref x0)] [] := by first | (simp [entryFrame, mkF, argsToLocals, Value.category]; done) | rfl
def Q_rm_ie (Z : State) (a : Addr) (t : Addr) (z : Int32) (f : Int32 → Int32) (h0 : Heap) (n0 : Nat) (vV : Option Value) (hH : Heap) (lA : List Loc) : Prop := vV = some (.int (0 : Int32)) ∧ Fr n0 lA ∧ (hH = h0)
set_option maxRecDepth 65536 in
set_option maxHeartbeats 40000000 in
theorem rm_ie (lL : Launch) (Z : State) (a0 : Array Value) (hw : own_H a0 Z) (ws : List Jvm.Cond) (a : Addr) (t : Addr) (z : Int32) (f : Int32 → Int32) (h0 : Heap) (n0 : Nat) (Z0 : n0 ≤ h0.size) (Fv : jF1 Z h0 a (.ref t)) (Tt : own_T Z h0 t .byte z f) (hnz : ¬ (z = (0 : Int32))) :
    own_Met lL jy27 (Jvm.Cond.code jy27 jdk_42_method_55_code 1 (some .boolean) :: ws) jr0 #[(.ref a)] Z h0 (Q_rm_ie Z a t z f h0 n0) := by
  refine own_begin (plainFor_of_name own_pn_java_lang_String) (fun mM => own_ef_rm_ie mM a) fun pP eE sS mM below meth cC s₁ hx hby hml hZ hown hnm hre hlk X0 e0 => ?_
  have hC := @Jvm.hb _ _ hby
  have N0 := Fr.nil n0
  have K0 := Keep.refl h0 ([] : List Addr)
  refine jg s₁ mM 1 #[vR a] [(.ref a)] (fun tT kK => ?_) ?_
  · refine XS.aloadN X0.here hx rfl (hC e19_0.1) rfl rfl ?_
    exact kK
  refine jf X0 hx hZ hown (jk hw 30 rfl) e0 Fv (hC e19_0.2.1) fun T1_ X1_ e1_ => ?_
  obtain ⟨cl2_, Ar2_, Sz2_, Nn2_, -⟩ := id Tt
  refine jg T1_ mM 13 #[vR a] [(.int (0 : Int32))] (fun tT kK => ?_) ?_
  · refine X1_.arraylength hx (own_rw e1_ Ar2_.1) (State.isArrayOf_alike hZ.alike Ar2_.2.1) (g := (mkF mM 4 #[vR a] [(.ref t)])) rfl rfl (hC e19_0.2.2.1) _ ?_
    rw [len_of Sz2_ Nn2_]
    refine XS.ifYes X1_.here hx rfl (pc0 := 5) (pc' := 12) rfl (hC e19_0.2.2.2) rfl ((if0 _ _).trans (feq (hnz : ¬ (z = (0 : Int32)))).2) (by decide) (by decide) ?_
    refine XS.iconst X1_.here hx rfl (hC e19_12.1) ?_
    exact kK
  exact own_rL X1_ hx hlk hre (by simp) (hC e19_12.2) (w := (.int (0 : Int32))) rfl e1_ (by decide) (by decide) ⟨rfl, N0, rfl⟩
theorem e18_0 : jD28 0 (.aload_n 0, 1) ∧ jD28 1 (.invokevirtual 55, 3) ∧ jD28 4 (.ifCond .ne 17, 3) ∧ jD28 7 (.aload_n 0, 1) := by decide +kernel
theorem e18_8 : jD28 8 (.invokevirtual 43, 3) ∧ jD28 11 (.sipush 128, 3) ∧ jD28 14 (.if_icmp .gt 7, 3) ∧ jD28 17 (.iconst 1, 1) := by decide +kernel
theorem e18_18 : jD28 18 (.goto 4, 3) ∧ jD28 22 (.istore_n 1, 1) ∧ jD28 23 (.iconst 0, 1) ∧ jD28 24 (.istore_n 2, 1) := by decide +kernel
theorem e18_25 : jD28 25 (.iload_n 1, 1) ∧ jD28 26 (.ifCond .eq 89, 3) ∧ jD28 29 (.iload_n 2, 1) ∧ jD28 30 (.aload_n 0, 1) := by decide +kernel
theorem e18_31 : jD28 31 (.invokevirtual 43, 3) ∧ jD28 34 (.if_icmp .ge 81, 3) ∧ jD28 37 (.aload_n 0, 1) ∧ jD28 38 (.iload_n 2, 1) := by decide +kernel
theorem e18_39 : jD28 39 (.invokevirtual 58, 3) ∧ jD28 42 (.istore_n 3, 1) ∧ jD28 43 (.iload_n 3, 1) ∧ jD28 44 (.bipush 65, 2) := by decide +kernel
theorem e18_46 : jD28 46 (.if_icmp .lt 9, 3) ∧ jD28 55 (.iload_n 3, 1) ∧ jD28 56 (.bipush 97, 2) ∧ jD28 58 (.if_icmp .lt 9, 3) := by decide +kernel
theorem e18_67 : jD28 67 (.iload_n 3, 1) ∧ jD28 68 (.bipush 48, 2) ∧ jD28 70 (.if_icmp .lt 9, 3) ∧ jD28 79 (.iload_n 3, 1) := by decide +kernel
theorem e18_80 : jD28 80 (.bipush 46, 2) ∧ jD28 82 (.if_icmp .eq 21, 3) ∧ jD28 103 (.iconst 1, 1) ∧ jD28 104 (.goto 4, 3) := by decide +kernel
theorem e18_85 : jD28 85 (.iload_n 3, 1) ∧ jD28 86 (.bipush 95, 2) ∧ jD28 88 (.if_icmp .eq 15, 3) ∧ jD28 91 (.iload_n 3, 1) := by decide +kernel
theorem e18_92 : jD28 92 (.bipush 58, 2) ∧ jD28 94 (.if_icmp .eq 9, 3) ∧ jD28 97 (.iload_n 3, 1) ∧ jD28 98 (.bipush 45, 2) := by decide +kernel
theorem e18_100 : jD28 100 (.if_icmp .ne 7, 3) ∧ jD28 107 (.iconst 0, 1) ∧ jD28 73 (.iload_n 3, 1) ∧ jD28 74 (.bipush 57, 2) := by decide +kernel
theorem e18_76 : jD28 76 (.if_icmp .le 27, 3) ∧ jD28 61 (.iload_n 3, 1) ∧ jD28 62 (.bipush 122, 2) ∧ jD28 64 (.if_icmp .le 39, 3) := by decide +kernel
theorem e18_49 : jD28 49 (.iload_n 3, 1) ∧ jD28 50 (.bipush 90, 2) ∧ jD28 52 (.if_icmp .le 51, 3) ∧ jD28 108 (.istore_n 1, 1) := by decide +kernel
theorem e18_109 : jD28 109 (.iinc 2 1, 3) ∧ jD28 112 (.goto (-87), 3) ∧ jD28 115 (.iload_n 1, 1) ∧ jD28 116 (.ireturn, 1) := by decide +kernel
theorem own_pn_com_example_waldrapp_waldrapp_Intent : plainName "com/example/waldrapp/waldrapp/Intent" = true := by first | (simp [plainName, overriddenIn]; done) | decide +kernel
theorem own_ef_rm_isid1 (mM : MethodId) (x0 : Addr) : entryFrame mM #[(.ref x0)] 4 = mkF mM 0 #[.val (.ref x0), .unset, .unset, .unset] [] := by first | (simp [entryFrame, mkF, argsToLocals, Value.category]; done) | rfl
def Q_rm_isid1 (Z : State) (a : Addr) (t : Addr) (f : Int32 → Int32) (cs : Int32) (fv : Value) (h0 : Heap) (n0 : Nat) (vV : Option Value) (hH : Heap) (lA : List Loc) : Prop := vV = some (.int (1 : Int32)) ∧ Fr n0 lA ∧ (hH = h0)
set_option maxRecDepth 65536 in
set_option maxHeartbeats 40000000 in
theorem rm_isid1 (lL : Launch) (Z : State) (a0 : Array Value) (hw : own_H a0 Z) (ws : List Jvm.Cond) (a : Addr) (t : Addr) (f : Int32 → Int32) (cs : Int32) (fv : Value) (h0 : Heap) (n0 : Nat) (Z0 : n0 ≤ h0.size) (Oo : Old Z n0 h0) (Scs : Sta Z Z.heap "java/lang/String" "COMPACT_STRINGS" "Z" (.int cs)) (ncs : ¬ (cs = (0 : Int32))) (Sfv : Sta Z Z.heap "jdk/internal/util/Preconditions" "SIOOBE_FORMATTER" "Ljava/util/function/BiFunction;" fv) (rfv : fv.isRef = true) (E : jE0 Z h0 a) (Fv : jF1 Z h0 a (.ref t)) (Fc : jF0 Z h0 a (.int (0 : Int32))) (Tt : own_T Z h0 t .byte (1 : Int32) f) (ok0 : own_okc (own_ch (f (0 : Int32))) = (1 : Int32)) :
    own_Met lL jy28 (Jvm.Cond.code jy28 prog_14_method_5_code 4 (some .boolean) :: ws) jr16 #[(.ref a)] Z h0 (Q_rm_isid1 Z a t f cs fv h0 n0) := by
  refine own_begin (plainFor_of_name own_pn_com_example_waldrapp_waldrapp_Intent) (fun mM => own_ef_rm_isid1 mM a) fun pP eE sS mM below meth cC s₁ hx hby hml hZ hown hnm hre hlk X0 e0 => ?_
  have hC := @Jvm.hb _ _ hby
  have N0 := Fr.nil n0
  have K0 := Keep.refl h0 ([] : List Addr)
  refine jg s₁ mM 1 #[vR a, vU, vU, vU] [(.ref a)] (fun tT kK => ?_) ?_
  · refine XS.aloadN X0.here hx rfl (hC e18_0.1) rfl rfl ?_
    exact kK
  refine jv X0 hx hZ (y := jy27) hown (jk hw 82 rfl) (jk hw 83 rfl) (jk hw 85 rfl) (jk hw 84 rfl) (jk hw 86 rfl) (jk hw 11 rfl) (rm_ie lL Z a0 hw [] a t (1 : Int32) f h0 n0 (Nat.le_trans Z0 K0.1) Fv Tt (by decide)) E e0 own_pd3 [] [] (hC e18_0.2.1) rfl rfl (by rw [hml]; rfl) (by decide) 0 (Nat.le_of_eq rfl) (by decide) (by decide) (by decide : 0 + 0 ≤ _) (by decide : 0 + 0 ≤ _) fun vv1_ T1_ L1_ X1_ hQ1_ => ?_
  obtain ⟨rfl, N1_q, p1__0⟩ := hQ1_
  have N1_ := Fr.app N0 N1_q
  refine jg T1_ mM 8 #[vR a, vU, vU, vU] [(.ref a)] (fun tT kK => ?_) ?_
  · refine XS.ifNo X1_.here hx rfl (hC e18_0.2.2.1) rfl ((if0 _ _).trans (teq ((by decide) : (0 : Int32) = (0 : Int32))).2) ?_
    refine XS.aloadN X1_.here hx rfl (hC e18_0.2.2.2) rfl rfl ?_
    exact kK
  refine jv X1_ hx hZ (y := jy1) hown (jk hw 87 rfl) (jk hw 88 rfl) (jk hw 90 rfl) (jk hw 89 rfl) (jk hw 91 rfl) (jk hw 11 rfl) (rm_slen lL Z a0 hw [] a t (1 : Int32) f cs h0 n0 (Nat.le_trans Z0 K0.1) Oo Scs ncs E Fv Fc Tt) E p1__0 own_pd12 [] [] (hC e18_8.1) rfl rfl (by rw [hml]; rfl) (by decide) 0 (Nat.le_of_eq rfl) (by decide) (by decide) (by decide : 0 + 0 ≤ _) (by decide : 0 + 0 ≤ _) fun vv2_ T2_ L2_ X2_ hQ2_ => ?_
  obtain ⟨rfl, N2_q, p2__0⟩ := hQ2_
  have N2_ := Fr.app N1_ N2_q
  let ll1 : Array Slot := #[vR a, vI 1, vI 0, vU]
  refine jg T2_ mM 31 ll1 [(.ref a), (.int (0 : Int32))] (fun tT kK => ?_) ?_
  · refine XS.sipush X2_.here hx rfl (hC e18_8.2.1) ?_
    refine XS.icmpNo X2_.here hx rfl (hC e18_8.2.2.1) rfl (flt ((by decide) : ¬ ((128 : Int32) < (1 : Int32)))).2.2.1 ?_
    refine XS.iconst X2_.here hx rfl (hC e18_8.2.2.2) ?_
    refine XS.goto X2_.here hx rfl (pc0 := 18) (pc' := 22) rfl (hC e18_18.1) (by decide) (by decide) ?_
    let ll2 : Array Slot := #[vR a, vI 1, vU, vU]
    refine XS.istoreN X2_.here hx rfl (hC e18_18.2.1) rfl (l' := ll2) rfl ?_
    refine XS.iconst X2_.here hx rfl (hC e18_18.2.2.1) ?_
    refine XS.istoreN X2_.here hx rfl (hC e18_18.2.2.2) rfl (l' := ll1) rfl ?_
    refine XS.iloadN X2_.here hx rfl (hC e18_25.1) rfl ?_
    refine XS.ifNo X2_.here hx rfl (hC e18_25.2.1) rfl ((if0 _ _).trans (feq ((by decide) : ¬ ((1 : Int32) = (0 : Int32)))).1) ?_
    refine XS.iloadN X2_.here hx rfl (hC e18_25.2.2.1) rfl ?_
    refine XS.aloadN X2_.here hx rfl (hC e18_25.2.2.2) rfl rfl ?_
    exact kK
  refine jv X2_ hx hZ (y := jy1) hown (jk hw 87 rfl) (jk hw 88 rfl) (jk hw 90 rfl) (jk hw 89 rfl) (jk hw 91 rfl) (jk hw 11 rfl) (rm_slen lL Z a0 hw [] a t (1 : Int32) f cs h0 n0 (Nat.le_trans Z0 K0.1) Oo Scs ncs E Fv Fc Tt) E p2__0 own_pd12 [] [(.int (0 : Int32))] (hC e18_31.1) rfl rfl (by rw [hml]; rfl) (by decide) 1 (Nat.le_of_eq rfl) (by decide) (by decide) (by decide : 0 + 0 ≤ _) (by decide : 0 + 0 ≤ _) fun vv3_ T3_ L3_ X3_ hQ3_ => ?_
  obtain ⟨rfl, N3_q, p3__0⟩ := hQ3_
  have N3_ := Fr.app N2_ N3_q
  refine jg T3_ mM 39 ll1 [(.int (0 : Int32)), (.ref a)] (fun tT kK => ?_) ?_
  · refine XS.icmpNo X3_.here hx rfl (hC e18_31.2.1) rfl (tlt ((by decide) : (0 : Int32) < (1 : Int32))).2.1 ?_
    refine XS.aloadN X3_.here hx rfl (hC e18_31.2.2.1) rfl rfl ?_
    refine XS.iloadN X3_.here hx rfl (hC e18_31.2.2.2) rfl ?_
    exact kK
  refine jv X3_ hx hZ (y := jy6) hown (jk hw 97 rfl) (jk hw 19 rfl) (jk hw 21 rfl) (jk hw 20 rfl) (jk hw 22 rfl) (jk hw 11 rfl) (rm_char lL Z a0 hw [] a (0 : Int32) t (1 : Int32) f cs fv h0 n0 (Nat.le_trans Z0 K0.1) Oo Scs ncs Sfv rfv E Fv Fc Tt (by decide) (by decide)) E p3__0 own_pd14 [(.int (0 : Int32))] [] (hC e18_39.1) rfl rfl (by rw [hml]; rfl) (by decide) 0 (Nat.le_of_eq rfl) (by decide) (by decide) (by decide : 0 + 0 ≤ _) (by decide : 0 + 0 ≤ _) fun vv4_ T4_ L4_ X4_ hQ4_ => ?_
  obtain ⟨rfl, N4_q, p4__0⟩ := hQ4_
  have N4_ := Fr.app N3_ N4_q
  let ll3 : Array Slot := #[vR a, vI 1, vI 0, vI (own_ch (f (0 : Int32)))]
  refine jg T4_ mM 43 ll3 [] (fun tT kK => ?_) ?_
  · refine XS.istoreN X4_.here hx rfl (hC e18_39.2.1) rfl (l' := ll3) rfl ?_
    exact kK
  obtain ⟨v0, hv0, st5_⟩ : ∃ v0 : Int32, (v0 = (if (own_ch (f (0 : Int32))) < (65 : Int32) then (if (own_ch (f (0 : Int32))) < (97 : Int32) then (if (own_ch (f (0 : Int32))) < (48 : Int32) then (if (own_ch (f (0 : Int32))) = (46 : Int32) then (1 : Int32) else (if (own_ch (f (0 : Int32))) = (95 : Int32) then (1 : Int32) else (if (own_ch (f (0 : Int32))) = (58 : Int32) then (1 : Int32) else (if (own_ch (f (0 : Int32))) = (45 : Int32) then (1 : Int32) else (0 : Int32))))) else (if (57 : Int32) < (own_ch (f (0 : Int32))) then (if (own_ch (f (0 : Int32))) = (46 : Int32) then (1 : Int32) else (if (own_ch (f (0 : Int32))) = (95 : Int32) then (1 : Int32) else (if (own_ch (f (0 : Int32))) = (58 : Int32) then (1 : Int32) else (if (own_ch (f (0 : Int32))) = (45 : Int32) then (1 : Int32) else (0 : Int32))))) else (1 : Int32))) else (if (122 : Int32) < (own_ch (f (0 : Int32))) then (if (own_ch (f (0 : Int32))) < (48 : Int32) then (if (own_ch (f (0 : Int32))) = (46 : Int32) then (1 : Int32) else (if (own_ch (f (0 : Int32))) = (95 : Int32) then (1 : Int32) else (if (own_ch (f (0 : Int32))) = (58 : Int32) then (1 : Int32) else (if (own_ch (f (0 : Int32))) = (45 : Int32) then (1 : Int32) else (0 : Int32))))) else (if (57 : Int32) < (own_ch (f (0 : Int32))) then (if (own_ch (f (0 : Int32))) = (46 : Int32) then (1 : Int32) else (if (own_ch (f (0 : Int32))) = (95 : Int32) then (1 : Int32) else (if (own_ch (f (0 : Int32))) = (58 : Int32) then (1 : Int32) else (if (own_ch (f (0 : Int32))) = (45 : Int32) then (1 : Int32) else (0 : Int32))))) else (1 : Int32))) else (1 : Int32))) else (if (90 : Int32) < (own_ch (f (0 : Int32))) then (if (own_ch (f (0 : Int32))) < (97 : Int32) then (if (own_ch (f (0 : Int32))) < (48 : Int32) then (if (own_ch (f (0 : Int32))) = (46 : Int32) then (1 : Int32) else (if (own_ch (f (0 : Int32))) = (95 : Int32) then (1 : Int32) else (if (own_ch (f (0 : Int32))) = (58 : Int32) then (1 : Int32) else (if (own_ch (f (0 : Int32))) = (45 : Int32) then (1 : Int32) else (0 : Int32))))) else (if (57 : Int32) < (own_ch (f (0 : Int32))) then (if (own_ch (f (0 : Int32))) = (46 : Int32) then (1 : Int32) else (if (own_ch (f (0 : Int32))) = (95 : Int32) then (1 : Int32) else (if (own_ch (f (0 : Int32))) = (58 : Int32) then (1 : Int32) else (if (own_ch (f (0 : Int32))) = (45 : Int32) then (1 : Int32) else (0 : Int32))))) else (1 : Int32))) else (if (122 : Int32) < (own_ch (f (0 : Int32))) then (if (own_ch (f (0 : Int32))) < (48 : Int32) then (if (own_ch (f (0 : Int32))) = (46 : Int32) then (1 : Int32) else (if (own_ch (f (0 : Int32))) = (95 : Int32) then (1 : Int32) else (if (own_ch (f (0 : Int32))) = (58 : Int32) then (1 : Int32) else (if (own_ch (f (0 : Int32))) = (45 : Int32) then (1 : Int32) else (0 : Int32))))) else (if (57 : Int32) < (own_ch (f (0 : Int32))) then (if (own_ch (f (0 : Int32))) = (46 : Int32) then (1 : Int32) else (if (own_ch (f (0 : Int32))) = (95 : Int32) then (1 : Int32) else (if (own_ch (f (0 : Int32))) = (58 : Int32) then (1 : Int32) else (if (own_ch (f (0 : Int32))) = (45 : Int32) then (1 : Int32) else (0 : Int32))))) else (1 : Int32))) else (1 : Int32))) else (1 : Int32)))) ∧ ∀ tT, Steps pP.tables eE below (T4_.setTop (mkF mM 108 #[.val (.ref a), .val (.int (1 : Int32)), .val (.int (0 : Int32)), .val (.int (own_ch (f (0 : Int32))))] [(.int v0)])) tT → Steps pP.tables eE below (T4_.setTop (mkF mM 43 #[.val (.ref a), .val (.int (1 : Int32)), .val (.int (0 : Int32)), .val (.int (own_ch (f (0 : Int32))))] [])) tT := by
    by_cases hm1 : (own_ch (f (0 : Int32))) < (65 : Int32)
    · by_cases hm2 : (own_ch (f (0 : Int32))) < (97 : Int32)
      · by_cases hm3 : (own_ch (f (0 : Int32))) < (48 : Int32)
        · by_cases hm4 : (own_ch (f (0 : Int32))) = (46 : Int32)
          · refine ⟨(1 : Int32), by rw [if_pos hm1, if_pos hm2, if_pos hm3, if_pos hm4], fun tT kK => ?_⟩
            refine XS.iloadN X4_.here hx rfl (hC e18_39.2.2.1) rfl ?_
            refine XS.bipush X4_.here hx rfl (hC e18_39.2.2.2) ?_
            refine XS.icmpYes X4_.here hx rfl (pc0 := 46) (pc' := 55) rfl (hC e18_46.1) rfl (tlt (hm1 : (own_ch (f (0 : Int32))) < (65 : Int32))).1 (by decide) (by decide) ?_
            refine XS.iloadN X4_.here hx rfl (hC e18_46.2.1) rfl ?_
            refine XS.bipush X4_.here hx rfl (hC e18_46.2.2.1) ?_
            refine XS.icmpYes X4_.here hx rfl (pc0 := 58) (pc' := 67) rfl (hC e18_46.2.2.2) rfl (tlt (hm2 : (own_ch (f (0 : Int32))) < (97 : Int32))).1 (by decide) (by decide) ?_
            refine XS.iloadN X4_.here hx rfl (hC e18_67.1) rfl ?_
            refine XS.bipush X4_.here hx rfl (hC e18_67.2.1) ?_
            refine XS.icmpYes X4_.here hx rfl (pc0 := 70) (pc' := 79) rfl (hC e18_67.2.2.1) rfl (tlt (hm3 : (own_ch (f (0 : Int32))) < (48 : Int32))).1 (by decide) (by decide) ?_
            refine XS.iloadN X4_.here hx rfl (hC e18_67.2.2.2) rfl ?_
            refine XS.bipush X4_.here hx rfl (hC e18_80.1) ?_
            refine XS.icmpYes X4_.here hx rfl (pc0 := 82) (pc' := 103) rfl (hC e18_80.2.1) rfl (teq (hm4 : (own_ch (f (0 : Int32))) = (46 : Int32))).1 (by decide) (by decide) ?_
            refine XS.iconst X4_.here hx rfl (hC e18_80.2.2.1) ?_
            refine XS.goto X4_.here hx rfl (pc0 := 104) (pc' := 108) rfl (hC e18_80.2.2.2) (by decide) (by decide) ?_
            exact kK
          · by_cases hm5 : (own_ch (f (0 : Int32))) = (95 : Int32)
            · refine ⟨(1 : Int32), by rw [if_pos hm1, if_pos hm2, if_pos hm3, if_neg hm4, if_pos hm5], fun tT kK => ?_⟩
              refine XS.iloadN X4_.here hx rfl (hC e18_39.2.2.1) rfl ?_
              refine XS.bipush X4_.here hx rfl (hC e18_39.2.2.2) ?_
              refine XS.icmpYes X4_.here hx rfl (pc0 := 46) (pc' := 55) rfl (hC e18_46.1) rfl (tlt (hm1 : (own_ch (f (0 : Int32))) < (65 : Int32))).1 (by decide) (by decide) ?_
              refine XS.iloadN X4_.here hx rfl (hC e18_46.2.1) rfl ?_
              refine XS.bipush X4_.here hx rfl (hC e18_46.2.2.1) ?_
              refine XS.icmpYes X4_.here hx rfl (pc0 := 58) (pc' := 67) rfl (hC e18_46.2.2.2) rfl (tlt (hm2 : (own_ch (f (0 : Int32))) < (97 : Int32))).1 (by decide) (by decide) ?_
              refine XS.iloadN X4_.here hx rfl (hC e18_67.1) rfl ?_
              refine XS.bipush X4_.here hx rfl (hC e18_67.2.1) ?_
              refine XS.icmpYes X4_.here hx rfl (pc0 := 70) (pc' := 79) rfl (hC e18_67.2.2.1) rfl (tlt (hm3 : (own_ch (f (0 : Int32))) < (48 : Int32))).1 (by decide) (by decide) ?_
              refine XS.iloadN X4_.here hx rfl (hC e18_67.2.2.2) rfl ?_
              refine XS.bipush X4_.here hx rfl (hC e18_80.1) ?_
              refine XS.icmpNo X4_.here hx rfl (hC e18_80.2.1) rfl (feq (hm4 : ¬ ((own_ch (f (0 : Int32))) = (46 : Int32)))).1 ?_
              refine XS.iloadN X4_.here hx rfl (hC e18_85.1) rfl ?_
              refine XS.bipush X4_.here hx rfl (hC e18_85.2.1) ?_
              refine XS.icmpYes X4_.here hx rfl (pc0 := 88) (pc' := 103) rfl (hC e18_85.2.2.1) rfl (teq (hm5 : (own_ch (f (0 : Int32))) = (95 : Int32))).1 (by decide) (by decide) ?_
              refine XS.iconst X4_.here hx rfl (hC e18_80.2.2.1) ?_
              refine XS.goto X4_.here hx rfl (pc0 := 104) (pc' := 108) rfl (hC e18_80.2.2.2) (by decide) (by decide) ?_
              exact kK
            · by_cases hm6 : (own_ch (f (0 : Int32))) = (58 : Int32)
              · refine ⟨(1 : Int32), by rw [if_pos hm1, if_pos hm2, if_pos hm3, if_neg hm4, if_neg hm5, if_pos hm6], fun tT kK => ?_⟩
                refine XS.iloadN X4_.here hx rfl (hC e18_39.2.2.1) rfl ?_
                refine XS.bipush X4_.here hx rfl (hC e18_39.2.2.2) ?_
                refine XS.icmpYes X4_.here hx rfl (pc0 := 46) (pc' := 55) rfl (hC e18_46.1) rfl (tlt (hm1 : (own_ch (f (0 : Int32))) < (65 : Int32))).1 (by decide) (by decide) ?_
                refine XS.iloadN X4_.here hx rfl (hC e18_46.2.1) rfl ?_
                refine XS.bipush X4_.here hx rfl (hC e18_46.2.2.1) ?_
                refine XS.icmpYes X4_.here hx rfl (pc0 := 58) (pc' := 67) rfl (hC e18_46.2.2.2) rfl (tlt (hm2 : (own_ch (f (0 : Int32))) < (97 : Int32))).1 (by decide) (by decide) ?_
                refine XS.iloadN X4_.here hx rfl (hC e18_67.1) rfl ?_
                refine XS.bipush X4_.here hx rfl (hC e18_67.2.1) ?_
                refine XS.icmpYes X4_.here hx rfl (pc0 := 70) (pc' := 79) rfl (hC e18_67.2.2.1) rfl (tlt (hm3 : (own_ch (f (0 : Int32))) < (48 : Int32))).1 (by decide) (by decide) ?_
                refine XS.iloadN X4_.here hx rfl (hC e18_67.2.2.2) rfl ?_
                refine XS.bipush X4_.here hx rfl (hC e18_80.1) ?_
                refine XS.icmpNo X4_.here hx rfl (hC e18_80.2.1) rfl (feq (hm4 : ¬ ((own_ch (f (0 : Int32))) = (46 : Int32)))).1 ?_
                refine XS.iloadN X4_.here hx rfl (hC e18_85.1) rfl ?_
                refine XS.bipush X4_.here hx rfl (hC e18_85.2.1) ?_
                refine XS.icmpNo X4_.here hx rfl (hC e18_85.2.2.1) rfl (feq (hm5 : ¬ ((own_ch (f (0 : Int32))) = (95 : Int32)))).1 ?_
                refine XS.iloadN X4_.here hx rfl (hC e18_85.2.2.2) rfl ?_
                refine XS.bipush X4_.here hx rfl (hC e18_92.1) ?_
                refine XS.icmpYes X4_.here hx rfl (pc0 := 94) (pc' := 103) rfl (hC e18_92.2.1) rfl (teq (hm6 : (own_ch (f (0 : Int32))) = (58 : Int32))).1 (by decide) (by decide) ?_
                refine XS.iconst X4_.here hx rfl (hC e18_80.2.2.1) ?_
                refine XS.goto X4_.here hx rfl (pc0 := 104) (pc' := 108) rfl (hC e18_80.2.2.2) (by decide) (by decide) ?_
                exact kK
              · by_cases hm7 : (own_ch (f (0 : Int32))) = (45 : Int32)
                · refine ⟨(1 : Int32), by rw [if_pos hm1, if_pos hm2, if_pos hm3, if_neg hm4, if_neg hm5, if_neg hm6, if_pos hm7], fun tT kK => ?_⟩
                  refine XS.iloadN X4_.here hx rfl (hC e18_39.2.2.1) rfl ?_
                  refine XS.bipush X4_.here hx rfl (hC e18_39.2.2.2) ?_
                  refine XS.icmpYes X4_.here hx rfl (pc0 := 46) (pc' := 55) rfl (hC e18_46.1) rfl (tlt (hm1 : (own_ch (f (0 : Int32))) < (65 : Int32))).1 (by decide) (by decide) ?_
                  refine XS.iloadN X4_.here hx rfl (hC e18_46.2.1) rfl ?_
                  refine XS.bipush X4_.here hx rfl (hC e18_46.2.2.1) ?_
                  refine XS.icmpYes X4_.here hx rfl (pc0 := 58) (pc' := 67) rfl (hC e18_46.2.2.2) rfl (tlt (hm2 : (own_ch (f (0 : Int32))) < (97 : Int32))).1 (by decide) (by decide) ?_
                  refine XS.iloadN X4_.here hx rfl (hC e18_67.1) rfl ?_
                  refine XS.bipush X4_.here hx rfl (hC e18_67.2.1) ?_
                  refine XS.icmpYes X4_.here hx rfl (pc0 := 70) (pc' := 79) rfl (hC e18_67.2.2.1) rfl (tlt (hm3 : (own_ch (f (0 : Int32))) < (48 : Int32))).1 (by decide) (by decide) ?_
                  refine XS.iloadN X4_.here hx rfl (hC e18_67.2.2.2) rfl ?_
                  refine XS.bipush X4_.here hx rfl (hC e18_80.1) ?_
                  refine XS.icmpNo X4_.here hx rfl (hC e18_80.2.1) rfl (feq (hm4 : ¬ ((own_ch (f (0 : Int32))) = (46 : Int32)))).1 ?_
                  refine XS.iloadN X4_.here hx rfl (hC e18_85.1) rfl ?_
                  refine XS.bipush X4_.here hx rfl (hC e18_85.2.1) ?_
                  refine XS.icmpNo X4_.here hx rfl (hC e18_85.2.2.1) rfl (feq (hm5 : ¬ ((own_ch (f (0 : Int32))) = (95 : Int32)))).1 ?_
                  refine XS.iloadN X4_.here hx rfl (hC e18_85.2.2.2) rfl ?_
                  refine XS.bipush X4_.here hx rfl (hC e18_92.1) ?_
                  refine XS.icmpNo X4_.here hx rfl (hC e18_92.2.1) rfl (feq (hm6 : ¬ ((own_ch (f (0 : Int32))) = (58 : Int32)))).1 ?_
                  refine XS.iloadN X4_.here hx rfl (hC e18_92.2.2.1) rfl ?_
                  refine XS.bipush X4_.here hx rfl (hC e18_92.2.2.2) ?_
                  refine XS.icmpNo X4_.here hx rfl (hC e18_100.1) rfl (teq (hm7 : (own_ch (f (0 : Int32))) = (45 : Int32))).2 ?_
                  refine XS.iconst X4_.here hx rfl (hC e18_80.2.2.1) ?_
                  show Steps pP.tables eE below (T4_.setTop (mkF mM 104 ll3 [(.int (1 : Int32))])) tT
                  refine XS.goto X4_.here hx rfl (pc0 := 104) (pc' := 108) rfl (hC e18_80.2.2.2) (by decide) (by decide) ?_
                  exact kK
                · refine ⟨(0 : Int32), by rw [if_pos hm1, if_pos hm2, if_pos hm3, if_neg hm4, if_neg hm5, if_neg hm6, if_neg hm7], fun tT kK => ?_⟩
                  refine XS.iloadN X4_.here hx rfl (hC e18_39.2.2.1) rfl ?_
                  refine XS.bipush X4_.here hx rfl (hC e18_39.2.2.2) ?_
                  refine XS.icmpYes X4_.here hx rfl (pc0 := 46) (pc' := 55) rfl (hC e18_46.1) rfl (tlt (hm1 : (own_ch (f (0 : Int32))) < (65 : Int32))).1 (by decide) (by decide) ?_
                  refine XS.iloadN X4_.here hx rfl (hC e18_46.2.1) rfl ?_
                  refine XS.bipush X4_.here hx rfl (hC e18_46.2.2.1) ?_
                  refine XS.icmpYes X4_.here hx rfl (pc0 := 58) (pc' := 67) rfl (hC e18_46.2.2.2) rfl (tlt (hm2 : (own_ch (f (0 : Int32))) < (97 : Int32))).1 (by decide) (by decide) ?_
                  refine XS.iloadN X4_.here hx rfl (hC e18_67.1) rfl ?_
                  refine XS.bipush X4_.here hx rfl (hC e18_67.2.1) ?_
                  refine XS.icmpYes X4_.here hx rfl (pc0 := 70) (pc' := 79) rfl (hC e18_67.2.2.1) rfl (tlt (hm3 : (own_ch (f (0 : Int32))) < (48 : Int32))).1 (by decide) (by decide) ?_
                  refine XS.iloadN X4_.here hx rfl (hC e18_67.2.2.2) rfl ?_
                  refine XS.bipush X4_.here hx rfl (hC e18_80.1) ?_
                  refine XS.icmpNo X4_.here hx rfl (hC e18_80.2.1) rfl (feq (hm4 : ¬ ((own_ch (f (0 : Int32))) = (46 : Int32)))).1 ?_
                  refine XS.iloadN X4_.here hx rfl (hC e18_85.1) rfl ?_
                  refine XS.bipush X4_.here hx rfl (hC e18_85.2.1) ?_
                  refine XS.icmpNo X4_.here hx rfl (hC e18_85.2.2.1) rfl (feq (hm5 : ¬ ((own_ch (f (0 : Int32))) = (95 : Int32)))).1 ?_
                  refine XS.iloadN X4_.here hx rfl (hC e18_85.2.2.2) rfl ?_
                  refine XS.bipush X4_.here hx rfl (hC e18_92.1) ?_
                  refine XS.icmpNo X4_.here hx rfl (hC e18_92.2.1) rfl (feq (hm6 : ¬ ((own_ch (f (0 : Int32))) = (58 : Int32)))).1 ?_
                  refine XS.iloadN X4_.here hx rfl (hC e18_92.2.2.1) rfl ?_
                  refine XS.bipush X4_.here hx rfl (hC e18_92.2.2.2) ?_
                  refine XS.icmpYes X4_.here hx rfl (pc0 := 100) (pc' := 107) rfl (hC e18_100.1) rfl (feq (hm7 : ¬ ((own_ch (f (0 : Int32))) = (45 : Int32)))).2 (by decide) (by decide) ?_
                  refine XS.iconst X4_.here hx rfl (hC e18_100.2.1) ?_
                  show Steps pP.tables eE below (T4_.setTop (mkF mM 108 ll3 [(.int (0 : Int32))])) tT
                  exact kK
        · by_cases hm4 : (57 : Int32) < (own_ch (f (0 : Int32)))
          · by_cases hm5 : (own_ch (f (0 : Int32))) = (46 : Int32)
            · refine ⟨(1 : Int32), by rw [if_pos hm1, if_pos hm2, if_neg hm3, if_pos hm4, if_pos hm5], fun tT kK => ?_⟩
              refine XS.iloadN X4_.here hx rfl (hC e18_39.2.2.1) rfl ?_
              refine XS.bipush X4_.here hx rfl (hC e18_39.2.2.2) ?_
              refine XS.icmpYes X4_.here hx rfl (pc0 := 46) (pc' := 55) rfl (hC e18_46.1) rfl (tlt (hm1 : (own_ch (f (0 : Int32))) < (65 : Int32))).1 (by decide) (by decide) ?_
              refine XS.iloadN X4_.here hx rfl (hC e18_46.2.1) rfl ?_
              refine XS.bipush X4_.here hx rfl (hC e18_46.2.2.1) ?_
              refine XS.icmpYes X4_.here hx rfl (pc0 := 58) (pc' := 67) rfl (hC e18_46.2.2.2) rfl (tlt (hm2 : (own_ch (f (0 : Int32))) < (97 : Int32))).1 (by decide) (by decide) ?_
              refine XS.iloadN X4_.here hx rfl (hC e18_67.1) rfl ?_
              refine XS.bipush X4_.here hx rfl (hC e18_67.2.1) ?_
              refine XS.icmpNo X4_.here hx rfl (hC e18_67.2.2.1) rfl (flt (hm3 : ¬ ((own_ch (f (0 : Int32))) < (48 : Int32)))).1 ?_
              refine XS.iloadN X4_.here hx rfl (hC e18_100.2.2.1) rfl ?_
              refine XS.bipush X4_.here hx rfl (hC e18_100.2.2.2) ?_
              refine XS.icmpNo X4_.here hx rfl (hC e18_76.1) rfl (tlt (hm4 : (57 : Int32) < (own_ch (f (0 : Int32))))).2.2.2 ?_
              refine XS.iloadN X4_.here hx rfl (hC e18_67.2.2.2) rfl ?_
              refine XS.bipush X4_.here hx rfl (hC e18_80.1) ?_
              refine XS.icmpYes X4_.here hx rfl (pc0 := 82) (pc' := 103) rfl (hC e18_80.2.1) rfl (teq (hm5 : (own_ch (f (0 : Int32))) = (46 : Int32))).1 (by decide) (by decide) ?_
              refine XS.iconst X4_.here hx rfl (hC e18_80.2.2.1) ?_
              refine XS.goto X4_.here hx rfl (pc0 := 104) (pc' := 108) rfl (hC e18_80.2.2.2) (by decide) (by decide) ?_
              exact kK
            · by_cases hm6 : (own_ch (f (0 : Int32))) = (95 : Int32)
              · refine ⟨(1 : Int32), by rw [if_pos hm1, if_pos hm2, if_neg hm3, if_pos hm4, if_neg hm5, if_pos hm6], fun tT kK => ?_⟩
                refine XS.iloadN X4_.here hx rfl (hC e18_39.2.2.1) rfl ?_
                refine XS.bipush X4_.here hx rfl (hC e18_39.2.2.2) ?_
                refine XS.icmpYes X4_.here hx rfl (pc0 := 46) (pc' := 55) rfl (hC e18_46.1) rfl (tlt (hm1 : (own_ch (f (0 : Int32))) < (65 : Int32))).1 (by decide) (by decide) ?_
                refine XS.iloadN X4_.here hx rfl (hC e18_46.2.1) rfl ?_
                refine XS.bipush X4_.here hx rfl (hC e18_46.2.2.1) ?_
                refine XS.icmpYes X4_.here hx rfl (pc0 := 58) (pc' := 67) rfl (hC e18_46.2.2.2) rfl (tlt (hm2 : (own_ch (f (0 : Int32))) < (97 : Int32))).1 (by decide) (by decide) ?_
                refine XS.iloadN X4_.here hx rfl (hC e18_67.1) rfl ?_
                refine XS.bipush X4_.here hx rfl (hC e18_67.2.1) ?_
                refine XS.icmpNo X4_.here hx rfl (hC e18_67.2.2.1) rfl (flt (hm3 : ¬ ((own_ch (f (0 : Int32))) < (48 : Int32)))).1 ?_
                refine XS.iloadN X4_.here hx rfl (hC e18_100.2.2.1) rfl ?_
                refine XS.bipush X4_.here hx rfl (hC e18_100.2.2.2) ?_
                refine XS.icmpNo X4_.here hx rfl (hC e18_76.1) rfl (tlt (hm4 : (57 : Int32) < (own_ch (f (0 : Int32))))).2.2.2 ?_
                refine XS.iloadN X4_.here hx rfl (hC e18_67.2.2.2) rfl ?_
                refine XS.bipush X4_.here hx rfl (hC e18_80.1) ?_
                refine XS.icmpNo X4_.here hx rfl (hC e18_80.2.1) rfl (feq (hm5 : ¬ ((own_ch (f (0 : Int32))) = (46 : Int32)))).1 ?_
                refine XS.iloadN X4_.here hx rfl (hC e18_85.1) rfl ?_
                refine XS.bipush X4_.here hx rfl (hC e18_85.2.1) ?_
                refine XS.icmpYes X4_.here hx rfl (pc0 := 88) (pc' := 103) rfl (hC e18_85.2.2.1) rfl (teq (hm6 : (own_ch (f (0 : Int32))) = (95 : Int32))).1 (by decide) (by decide) ?_
                refine XS.iconst X4_.here hx rfl (hC e18_80.2.2.1) ?_
                refine XS.goto X4_.here hx rfl (pc0 := 104) (pc' := 108) rfl (hC e18_80.2.2.2) (by decide) (by decide) ?_
                exact kK
              · by_cases hm7 : (own_ch (f (0 : Int32))) = (58 : Int32)
                · refine ⟨(1 : Int32), by rw [if_pos hm1, if_pos hm2, if_neg hm3, if_pos hm4, if_neg hm5, if_neg hm6, if_pos hm7], fun tT kK => ?_⟩
                  refine XS.iloadN X4_.here hx rfl (hC e18_39.2.2.1) rfl ?_
                  refine XS.bipush X4_.here hx rfl (hC e18_39.2.2.2) ?_
                  refine XS.icmpYes X4_.here hx rfl (pc0 := 46) (pc' := 55) rfl (hC e18_46.1) rfl (tlt (hm1 : (own_ch (f (0 : Int32))) < (65 : Int32))).1 (by decide) (by decide) ?_
                  refine XS.iloadN X4_.here hx rfl (hC e18_46.2.1) rfl ?_
                  refine XS.bipush X4_.here hx rfl (hC e18_46.2.2.1) ?_
                  refine XS.icmpYes X4_.here hx rfl (pc0 := 58) (pc' := 67) rfl (hC e18_46.2.2.2) rfl (tlt (hm2 : (own_ch (f (0 : Int32))) < (97 : Int32))).1 (by decide) (by decide) ?_
                  refine XS.iloadN X4_.here hx rfl (hC e18_67.1) rfl ?_
                  refine XS.bipush X4_.here hx rfl (hC e18_67.2.1) ?_
                  refine XS.icmpNo X4_.here hx rfl (hC e18_67.2.2.1) rfl (flt (hm3 : ¬ ((own_ch (f (0 : Int32))) < (48 : Int32)))).1 ?_
                  refine XS.iloadN X4_.here hx rfl (hC e18_100.2.2.1) rfl ?_
                  refine XS.bipush X4_.here hx rfl (hC e18_100.2.2.2) ?_
                  refine XS.icmpNo X4_.here hx rfl (hC e18_76.1) rfl (tlt (hm4 : (57 : Int32) < (own_ch (f (0 : Int32))))).2.2.2 ?_
                  refine XS.iloadN X4_.here hx rfl (hC e18_67.2.2.2) rfl ?_
                  refine XS.bipush X4_.here hx rfl (hC e18_80.1) ?_
                  refine XS.icmpNo X4_.here hx rfl (hC e18_80.2.1) rfl (feq (hm5 : ¬ ((own_ch (f (0 : Int32))) = (46 : Int32)))).1 ?_
                  refine XS.iloadN X4_.here hx rfl (hC e18_85.1) rfl ?_
                  refine XS.bipush X4_.here hx rfl (hC e18_85.2.1) ?_
                  refine XS.icmpNo X4_.here hx rfl (hC e18_85.2.2.1) rfl (feq (hm6 : ¬ ((own_ch (f (0 : Int32))) = (95 : Int32)))).1 ?_
                  refine XS.iloadN X4_.here hx rfl (hC e18_85.2.2.2) rfl ?_
                  refine XS.bipush X4_.here hx rfl (hC e18_92.1) ?_
                  refine XS.icmpYes X4_.here hx rfl (pc0 := 94) (pc' := 103) rfl (hC e18_92.2.1) rfl (teq (hm7 : (own_ch (f (0 : Int32))) = (58 : Int32))).1 (by decide) (by decide) ?_
                  refine XS.iconst X4_.here hx rfl (hC e18_80.2.2.1) ?_
                  show Steps pP.tables eE below (T4_.setTop (mkF mM 104 ll3 [(.int (1 : Int32))])) tT
                  refine XS.goto X4_.here hx rfl (pc0 := 104) (pc' := 108) rfl (hC e18_80.2.2.2) (by decide) (by decide) ?_
                  exact kK
                · by_cases hm8 : (own_ch (f (0 : Int32))) = (45 : Int32)
                  · refine ⟨(1 : Int32), by rw [if_pos hm1, if_pos hm2, if_neg hm3, if_pos hm4, if_neg hm5, if_neg hm6, if_neg hm7, if_pos hm8], fun tT kK => ?_⟩
                    refine XS.iloadN X4_.here hx rfl (hC e18_39.2.2.1) rfl ?_
                    refine XS.bipush X4_.here hx rfl (hC e18_39.2.2.2) ?_
                    refine XS.icmpYes X4_.here hx rfl (pc0 := 46) (pc' := 55) rfl (hC e18_46.1) rfl (tlt (hm1 : (own_ch (f (0 : Int32))) < (65 : Int32))).1 (by decide) (by decide) ?_
                    refine XS.iloadN X4_.here hx rfl (hC e18_46.2.1) rfl ?_
                    refine XS.bipush X4_.here hx rfl (hC e18_46.2.2.1) ?_
                    refine XS.icmpYes X4_.here hx rfl (pc0 := 58) (pc' := 67) rfl (hC e18_46.2.2.2) rfl (tlt (hm2 : (own_ch (f (0 : Int32))) < (97 : Int32))).1 (by decide) (by decide) ?_
                    refine XS.iloadN X4_.here hx rfl (hC e18_67.1) rfl ?_
                    refine XS.bipush X4_.here hx rfl (hC e18_67.2.1) ?_
                    refine XS.icmpNo X4_.here hx rfl (hC e18_67.2.2.1) rfl (flt (hm3 : ¬ ((own_ch (f (0 : Int32))) < (48 : Int32)))).1 ?_
                    refine XS.iloadN X4_.here hx rfl (hC e18_100.2.2.1) rfl ?_
                    refine XS.bipush X4_.here hx rfl (hC e18_100.2.2.2) ?_
                    refine XS.icmpNo X4_.here hx rfl (hC e18_76.1) rfl (tlt (hm4 : (57 : Int32) < (own_ch (f (0 : Int32))))).2.2.2 ?_
                    refine XS.iloadN X4_.here hx rfl (hC e18_67.2.2.2) rfl ?_
                    refine XS.bipush X4_.here hx rfl (hC e18_80.1) ?_
                    refine XS.icmpNo X4_.here hx rfl (hC e18_80.2.1) rfl (feq (hm5 : ¬ ((own_ch (f (0 : Int32))) = (46 : Int32)))).1 ?_
                    refine XS.iloadN X4_.here hx rfl (hC e18_85.1) rfl ?_
                    refine XS.bipush X4_.here hx rfl (hC e18_85.2.1) ?_
                    refine XS.icmpNo X4_.here hx rfl (hC e18_85.2.2.1) rfl (feq (hm6 : ¬ ((own_ch (f (0 : Int32))) = (95 : Int32)))).1 ?_
                    refine XS.iloadN X4_.here hx rfl (hC e18_85.2.2.2) rfl ?_
                    refine XS.bipush X4_.here hx rfl (hC e18_92.1) ?_
                    refine XS.icmpNo X4_.here hx rfl (hC e18_92.2.1) rfl (feq (hm7 : ¬ ((own_ch (f (0 : Int32))) = (58 : Int32)))).1 ?_
                    refine XS.iloadN X4_.here hx rfl (hC e18_92.2.2.1) rfl ?_
                    show Steps pP.tables eE below (T4_.setTop (mkF mM 98 ll3 [(.int (own_ch (f (0 : Int32))))])) tT
                    refine XS.bipush X4_.here hx rfl (hC e18_92.2.2.2) ?_
                    refine XS.icmpNo X4_.here hx rfl (hC e18_100.1) rfl (teq (hm8 : (own_ch (f (0 : Int32))) = (45 : Int32))).2 ?_
                    refine XS.iconst X4_.here hx rfl (hC e18_80.2.2.1) ?_
                    refine XS.goto X4_.here hx rfl (pc0 := 104) (pc' := 108) rfl (hC e18_80.2.2.2) (by decide) (by decide) ?_
                    exact kK
                  · refine ⟨(0 : Int32), by rw [if_pos hm1, if_pos hm2, if_neg hm3, if_pos hm4, if_neg hm5, if_neg hm6, if_neg hm7, if_neg hm8], fun tT kK => ?_⟩
                    refine XS.iloadN X4_.here hx rfl (hC e18_39.2.2.1) rfl ?_
                    refine XS.bipush X4_.here hx rfl (hC e18_39.2.2.2) ?_
                    refine XS.icmpYes X4_.here hx rfl (pc0 := 46) (pc' := 55) rfl (hC e18_46.1) rfl (tlt (hm1 : (own_ch (f (0 : Int32))) < (65 : Int32))).1 (by decide) (by decide) ?_
                    refine XS.iloadN X4_.here hx rfl (hC e18_46.2.1) rfl ?_
                    refine XS.bipush X4_.here hx rfl (hC e18_46.2.2.1) ?_
                    refine XS.icmpYes X4_.here hx rfl (pc0 := 58) (pc' := 67) rfl (hC e18_46.2.2.2) rfl (tlt (hm2 : (own_ch (f (0 : Int32))) < (97 : Int32))).1 (by decide) (by decide) ?_
                    refine XS.iloadN X4_.here hx rfl (hC e18_67.1) rfl ?_
                    refine XS.bipush X4_.here hx rfl (hC e18_67.2.1) ?_
                    refine XS.icmpNo X4_.here hx rfl (hC e18_67.2.2.1) rfl (flt (hm3 : ¬ ((own_ch (f (0 : Int32))) < (48 : Int32)))).1 ?_
                    refine XS.iloadN X4_.here hx rfl (hC e18_100.2.2.1) rfl ?_
                    refine XS.bipush X4_.here hx rfl (hC e18_100.2.2.2) ?_
                    refine XS.icmpNo X4_.here hx rfl (hC e18_76.1) rfl (tlt (hm4 : (57 : Int32) < (own_ch (f (0 : Int32))))).2.2.2 ?_
                    refine XS.iloadN X4_.here hx rfl (hC e18_67.2.2.2) rfl ?_
                    refine XS.bipush X4_.here hx rfl (hC e18_80.1) ?_
                    refine XS.icmpNo X4_.here hx rfl (hC e18_80.2.1) rfl (feq (hm5 : ¬ ((own_ch (f (0 : Int32))) = (46 : Int32)))).1 ?_
                    refine XS.iloadN X4_.here hx rfl (hC e18_85.1) rfl ?_
                    refine XS.bipush X4_.here hx rfl (hC e18_85.2.1) ?_
                    refine XS.icmpNo X4_.here hx rfl (hC e18_85.2.2.1) rfl (feq (hm6 : ¬ ((own_ch (f (0 : Int32))) = (95 : Int32)))).1 ?_
                    refine XS.iloadN X4_.here hx rfl (hC e18_85.2.2.2) rfl ?_
                    refine XS.bipush X4_.here hx rfl (hC e18_92.1) ?_
                    refine XS.icmpNo X4_.here hx rfl (hC e18_92.2.1) rfl (feq (hm7 : ¬ ((own_ch (f (0 : Int32))) = (58 : Int32)))).1 ?_
                    refine XS.iloadN X4_.here hx rfl (hC e18_92.2.2.1) rfl ?_
                    show Steps pP.tables eE below (T4_.setTop (mkF mM 98 ll3 [(.int (own_ch (f (0 : Int32))))])) tT
                    refine XS.bipush X4_.here hx rfl (hC e18_92.2.2.2) ?_
                    refine XS.icmpYes X4_.here hx rfl (pc0 := 100) (pc' := 107) rfl (hC e18_100.1) rfl (feq (hm8 : ¬ ((own_ch (f (0 : Int32))) = (45 : Int32)))).2 (by decide) (by decide) ?_
                    refine XS.iconst X4_.here hx rfl (hC e18_100.2.1) ?_
                    exact kK
          · refine ⟨(1 : Int32), by rw [if_pos hm1, if_pos hm2, if_neg hm3, if_neg hm4], fun tT kK => ?_⟩
            refine XS.iloadN X4_.here hx rfl (hC e18_39.2.2.1) rfl ?_
            refine XS.bipush X4_.here hx rfl (hC e18_39.2.2.2) ?_
            refine XS.icmpYes X4_.here hx rfl (pc0 := 46) (pc' := 55) rfl (hC e18_46.1) rfl (tlt (hm1 : (own_ch (f (0 : Int32))) < (65 : Int32))).1 (by decide) (by decide) ?_
            refine XS.iloadN X4_.here hx rfl (hC e18_46.2.1) rfl ?_
            refine XS.bipush X4_.here hx rfl (hC e18_46.2.2.1) ?_
            refine XS.icmpYes X4_.here hx rfl (pc0 := 58) (pc' := 67) rfl (hC e18_46.2.2.2) rfl (tlt (hm2 : (own_ch (f (0 : Int32))) < (97 : Int32))).1 (by decide) (by decide) ?_
            refine XS.iloadN X4_.here hx rfl (hC e18_67.1) rfl ?_
            refine XS.bipush X4_.here hx rfl (hC e18_67.2.1) ?_
            refine XS.icmpNo X4_.here hx rfl (hC e18_67.2.2.1) rfl (flt (hm3 : ¬ ((own_ch (f (0 : Int32))) < (48 : Int32)))).1 ?_
            refine XS.iloadN X4_.here hx rfl (hC e18_100.2.2.1) rfl ?_
            refine XS.bipush X4_.here hx rfl (hC e18_100.2.2.2) ?_
            refine XS.icmpYes X4_.here hx rfl (pc0 := 76) (pc' := 103) rfl (hC e18_76.1) rfl (flt (hm4 : ¬ ((57 : Int32) < (own_ch (f (0 : Int32)))))).2.2.2 (by decide) (by decide) ?_
            refine XS.iconst X4_.here hx rfl (hC e18_80.2.2.1) ?_
            refine XS.goto X4_.here hx rfl (pc0 := 104) (pc' := 108) rfl (hC e18_80.2.2.2) (by decide) (by decide) ?_
            exact kK
      · by_cases hm3 : (122 : Int32) < (own_ch (f (0 : Int32)))
        · by_cases hm4 : (own_ch (f (0 : Int32))) < (48 : Int32)
          · by_cases hm5 : (own_ch (f (0 : Int32))) = (46 : Int32)
            · refine ⟨(1 : Int32), by rw [if_pos hm1, if_neg hm2, if_pos hm3, if_pos hm4, if_pos hm5], fun tT kK => ?_⟩
              refine XS.iloadN X4_.here hx rfl (hC e18_39.2.2.1) rfl ?_
              refine XS.bipush X4_.here hx rfl (hC e18_39.2.2.2) ?_
              refine XS.icmpYes X4_.here hx rfl (pc0 := 46) (pc' := 55) rfl (hC e18_46.1) rfl (tlt (hm1 : (own_ch (f (0 : Int32))) < (65 : Int32))).1 (by decide) (by decide) ?_
              refine XS.iloadN X4_.here hx rfl (hC e18_46.2.1) rfl ?_
              refine XS.bipush X4_.here hx rfl (hC e18_46.2.2.1) ?_
              refine XS.icmpNo X4_.here hx rfl (hC e18_46.2.2.2) rfl (flt (hm2 : ¬ ((own_ch (f (0 : Int32))) < (97 : Int32)))).1 ?_
              refine XS.iloadN X4_.here hx rfl (hC e18_76.2.1) rfl ?_
              refine XS.bipush X4_.here hx rfl (hC e18_76.2.2.1) ?_
              refine XS.icmpNo X4_.here hx rfl (hC e18_76.2.2.2) rfl (tlt (hm3 : (122 : Int32) < (own_ch (f (0 : Int32))))).2.2.2 ?_
              refine XS.iloadN X4_.here hx rfl (hC e18_67.1) rfl ?_
              refine XS.bipush X4_.here hx rfl (hC e18_67.2.1) ?_
              refine XS.icmpYes X4_.here hx rfl (pc0 := 70) (pc' := 79) rfl (hC e18_67.2.2.1) rfl (tlt (hm4 : (own_ch (f (0 : Int32))) < (48 : Int32))).1 (by decide) (by decide) ?_
              refine XS.iloadN X4_.here hx rfl (hC e18_67.2.2.2) rfl ?_
              refine XS.bipush X4_.here hx rfl (hC e18_80.1) ?_
              refine XS.icmpYes X4_.here hx rfl (pc0 := 82) (pc' := 103) rfl (hC e18_80.2.1) rfl (teq (hm5 : (own_ch (f (0 : Int32))) = (46 : Int32))).1 (by decide) (by decide) ?_
              refine XS.iconst X4_.here hx rfl (hC e18_80.2.2.1) ?_
              refine XS.goto X4_.here hx rfl (pc0 := 104) (pc' := 108) rfl (hC e18_80.2.2.2) (by decide) (by decide) ?_
              exact kK
            · by_cases hm6 : (own_ch (f (0 : Int32))) = (95 : Int32)
              · refine ⟨(1 : Int32), by rw [if_pos hm1, if_neg hm2, if_pos hm3, if_pos hm4, if_neg hm5, if_pos hm6], fun tT kK => ?_⟩
                refine XS.iloadN X4_.here hx rfl (hC e18_39.2.2.1) rfl ?_
                refine XS.bipush X4_.here hx rfl (hC e18_39.2.2.2) ?_
                refine XS.icmpYes X4_.here hx rfl (pc0 := 46) (pc' := 55) rfl (hC e18_46.1) rfl (tlt (hm1 : (own_ch (f (0 : Int32))) < (65 : Int32))).1 (by decide) (by decide) ?_
                refine XS.iloadN X4_.here hx rfl (hC e18_46.2.1) rfl ?_
                refine XS.bipush X4_.here hx rfl (hC e18_46.2.2.1) ?_
                refine XS.icmpNo X4_.here hx rfl (hC e18_46.2.2.2) rfl (flt (hm2 : ¬ ((own_ch (f (0 : Int32))) < (97 : Int32)))).1 ?_
                refine XS.iloadN X4_.here hx rfl (hC e18_76.2.1) rfl ?_
                refine XS.bipush X4_.here hx rfl (hC e18_76.2.2.1) ?_
                refine XS.icmpNo X4_.here hx rfl (hC e18_76.2.2.2) rfl (tlt (hm3 : (122 : Int32) < (own_ch (f (0 : Int32))))).2.2.2 ?_
                refine XS.iloadN X4_.here hx rfl (hC e18_67.1) rfl ?_
                refine XS.bipush X4_.here hx rfl (hC e18_67.2.1) ?_
                refine XS.icmpYes X4_.here hx rfl (pc0 := 70) (pc' := 79) rfl (hC e18_67.2.2.1) rfl (tlt (hm4 : (own_ch (f (0 : Int32))) < (48 : Int32))).1 (by decide) (by decide) ?_
                refine XS.iloadN X4_.here hx rfl (hC e18_67.2.2.2) rfl ?_
                refine XS.bipush X4_.here hx rfl (hC e18_80.1) ?_
                refine XS.icmpNo X4_.here hx rfl (hC e18_80.2.1) rfl (feq (hm5 : ¬ ((own_ch (f (0 : Int32))) = (46 : Int32)))).1 ?_
                refine XS.iloadN X4_.here hx rfl (hC e18_85.1) rfl ?_
                refine XS.bipush X4_.here hx rfl (hC e18_85.2.1) ?_
                refine XS.icmpYes X4_.here hx rfl (pc0 := 88) (pc' := 103) rfl (hC e18_85.2.2.1) rfl (teq (hm6 : (own_ch (f (0 : Int32))) = (95 : Int32))).1 (by decide) (by decide) ?_
                refine XS.iconst X4_.here hx rfl (hC e18_80.2.2.1) ?_
                refine XS.goto X4_.here hx rfl (pc0 := 104) (pc' := 108) rfl (hC e18_80.2.2.2) (by decide) (by decide) ?_
                exact kK
              · by_cases hm7 : (own_ch (f (0 : Int32))) = (58 : Int32)
                · refine ⟨(1 : Int32), by rw [if_pos hm1, if_neg hm2, if_pos hm3, if_pos hm4, if_neg hm5, if_neg hm6, if_pos hm7], fun tT kK => ?_⟩
                  refine XS.iloadN X4_.here hx rfl (hC e18_39.2.2.1) rfl ?_
                  refine XS.bipush X4_.here hx rfl (hC e18_39.2.2.2) ?_
                  refine XS.icmpYes X4_.here hx rfl (pc0 := 46) (pc' := 55) rfl (hC e18_46.1) rfl (tlt (hm1 : (own_ch (f (0 : Int32))) < (65 : Int32))).1 (by decide) (by decide) ?_
                  refine XS.iloadN X4_.here hx rfl (hC e18_46.2.1) rfl ?_
                  refine XS.bipush X4_.here hx rfl (hC e18_46.2.2.1) ?_
                  refine XS.icmpNo X4_.here hx rfl (hC e18_46.2.2.2) rfl (flt (hm2 : ¬ ((own_ch (f (0 : Int32))) < (97 : Int32)))).1 ?_
                  refine XS.iloadN X4_.here hx rfl (hC e18_76.2.1) rfl ?_
                  refine XS.bipush X4_.here hx rfl (hC e18_76.2.2.1) ?_
                  refine XS.icmpNo X4_.here hx rfl (hC e18_76.2.2.2) rfl (tlt (hm3 : (122 : Int32) < (own_ch (f (0 : Int32))))).2.2.2 ?_
                  refine XS.iloadN X4_.here hx rfl (hC e18_67.1) rfl ?_
                  refine XS.bipush X4_.here hx rfl (hC e18_67.2.1) ?_
                  refine XS.icmpYes X4_.here hx rfl (pc0 := 70) (pc' := 79) rfl (hC e18_67.2.2.1) rfl (tlt (hm4 : (own_ch (f (0 : Int32))) < (48 : Int32))).1 (by decide) (by decide) ?_
                  refine XS.iloadN X4_.here hx rfl (hC e18_67.2.2.2) rfl ?_
                  refine XS.bipush X4_.here hx rfl (hC e18_80.1) ?_
                  refine XS.icmpNo X4_.here hx rfl (hC e18_80.2.1) rfl (feq (hm5 : ¬ ((own_ch (f (0 : Int32))) = (46 : Int32)))).1 ?_
                  refine XS.iloadN X4_.here hx rfl (hC e18_85.1) rfl ?_
                  refine XS.bipush X4_.here hx rfl (hC e18_85.2.1) ?_
                  refine XS.icmpNo X4_.here hx rfl (hC e18_85.2.2.1) rfl (feq (hm6 : ¬ ((own_ch (f (0 : Int32))) = (95 : Int32)))).1 ?_
                  refine XS.iloadN X4_.here hx rfl (hC e18_85.2.2.2) rfl ?_
                  refine XS.bipush X4_.here hx rfl (hC e18_92.1) ?_
                  refine XS.icmpYes X4_.here hx rfl (pc0 := 94) (pc' := 103) rfl (hC e18_92.2.1) rfl (teq (hm7 : (own_ch (f (0 : Int32))) = (58 : Int32))).1 (by decide) (by decide) ?_
                  refine XS.iconst X4_.here hx rfl (hC e18_80.2.2.1) ?_
                  show Steps pP.tables eE below (T4_.setTop (mkF mM 104 ll3 [(.int (1 : Int32))])) tT
                  refine XS.goto X4_.here hx rfl (pc0 := 104) (pc' := 108) rfl (hC e18_80.2.2.2) (by decide) (by decide) ?_
                  exact kK
                · by_cases hm8 : (own_ch (f (0 : Int32))) = (45 : Int32)
                  · refine ⟨(1 : Int32), by rw [if_pos hm1, if_neg hm2, if_pos hm3, if_pos hm4, if_neg hm5, if_neg hm6, if_neg hm7, if_pos hm8], fun tT kK => ?_⟩
                    refine XS.iloadN X4_.here hx rfl (hC e18_39.2.2.1) rfl ?_
                    refine XS.bipush X4_.here hx rfl (hC e18_39.2.2.2) ?_
                    refine XS.icmpYes X4_.here hx rfl (pc0 := 46) (pc' := 55) rfl (hC e18_46.1) rfl (tlt (hm1 : (own_ch (f (0 : Int32))) < (65 : Int32))).1 (by decide) (by decide) ?_
                    refine XS.iloadN X4_.here hx rfl (hC e18_46.2.1) rfl ?_
                    refine XS.bipush X4_.here hx rfl (hC e18_46.2.2.1) ?_
                    refine XS.icmpNo X4_.here hx rfl (hC e18_46.2.2.2) rfl (flt (hm2 : ¬ ((own_ch (f (0 : Int32))) < (97 : Int32)))).1 ?_
                    refine XS.iloadN X4_.here hx rfl (hC e18_76.2.1) rfl ?_
                    refine XS.bipush X4_.here hx rfl (hC e18_76.2.2.1) ?_
                    refine XS.icmpNo X4_.here hx rfl (hC e18_76.2.2.2) rfl (tlt (hm3 : (122 : Int32) < (own_ch (f (0 : Int32))))).2.2.2 ?_
                    refine XS.iloadN X4_.here hx rfl (hC e18_67.1) rfl ?_
                    refine XS.bipush X4_.here hx rfl (hC e18_67.2.1) ?_
                    refine XS.icmpYes X4_.here hx rfl (pc0 := 70) (pc' := 79) rfl (hC e18_67.2.2.1) rfl (tlt (hm4 : (own_ch (f (0 : Int32))) < (48 : Int32))).1 (by decide) (by decide) ?_
                    refine XS.iloadN X4_.here hx rfl (hC e18_67.2.2.2) rfl ?_
                    refine XS.bipush X4_.here hx rfl (hC e18_80.1) ?_
                    refine XS.icmpNo X4_.here hx rfl (hC e18_80.2.1) rfl (feq (hm5 : ¬ ((own_ch (f (0 : Int32))) = (46 : Int32)))).1 ?_
                    refine XS.iloadN X4_.here hx rfl (hC e18_85.1) rfl ?_
                    refine XS.bipush X4_.here hx rfl (hC e18_85.2.1) ?_
                    refine XS.icmpNo X4_.here hx rfl (hC e18_85.2.2.1) rfl (feq (hm6 : ¬ ((own_ch (f (0 : Int32))) = (95 : Int32)))).1 ?_
                    refine XS.iloadN X4_.here hx rfl (hC e18_85.2.2.2) rfl ?_
                    refine XS.bipush X4_.here hx rfl (hC e18_92.1) ?_
                    refine XS.icmpNo X4_.here hx rfl (hC e18_92.2.1) rfl (feq (hm7 : ¬ ((own_ch (f (0 : Int32))) = (58 : Int32)))).1 ?_
                    refine XS.iloadN X4_.here hx rfl (hC e18_92.2.2.1) rfl ?_
                    show Steps pP.tables eE below (T4_.setTop (mkF mM 98 ll3 [(.int (own_ch (f (0 : Int32))))])) tT
                    refine XS.bipush X4_.here hx rfl (hC e18_92.2.2.2) ?_
                    refine XS.icmpNo X4_.here hx rfl (hC e18_100.1) rfl (teq (hm8 : (own_ch (f (0 : Int32))) = (45 : Int32))).2 ?_
                    refine XS.iconst X4_.here hx rfl (hC e18_80.2.2.1) ?_
                    refine XS.goto X4_.here hx rfl (pc0 := 104) (pc' := 108) rfl (hC e18_80.2.2.2) (by decide) (by decide) ?_
                    exact kK
                  · refine ⟨(0 : Int32), by rw [if_pos hm1, if_neg hm2, if_pos hm3, if_pos hm4, if_neg hm5, if_neg hm6, if_neg hm7, if_neg hm8], fun tT kK => ?_⟩
                    refine XS.iloadN X4_.here hx rfl (hC e18_39.2.2.1) rfl ?_
                    refine XS.bipush X4_.here hx rfl (hC e18_39.2.2.2) ?_
                    refine XS.icmpYes X4_.here hx rfl (pc0 := 46) (pc' := 55) rfl (hC e18_46.1) rfl (tlt (hm1 : (own_ch (f (0 : Int32))) < (65 : Int32))).1 (by decide) (by decide) ?_
                    refine XS.iloadN X4_.here hx rfl (hC e18_46.2.1) rfl ?_
                    refine XS.bipush X4_.here hx rfl (hC e18_46.2.2.1) ?_
                    refine XS.icmpNo X4_.here hx rfl (hC e18_46.2.2.2) rfl (flt (hm2 : ¬ ((own_ch (f (0 : Int32))) < (97 : Int32)))).1 ?_
                    refine XS.iloadN X4_.here hx rfl (hC e18_76.2.1) rfl ?_
                    refine XS.bipush X4_.here hx rfl (hC e18_76.2.2.1) ?_
                    refine XS.icmpNo X4_.here hx rfl (hC e18_76.2.2.2) rfl (tlt (hm3 : (122 : Int32) < (own_ch (f (0 : Int32))))).2.2.2 ?_
                    refine XS.iloadN X4_.here hx rfl (hC e18_67.1) rfl ?_
                    refine XS.bipush X4_.here hx rfl (hC e18_67.2.1) ?_
                    refine XS.icmpYes X4_.here hx rfl (pc0 := 70) (pc' := 79) rfl (hC e18_67.2.2.1) rfl (tlt (hm4 : (own_ch (f (0 : Int32))) < (48 : Int32))).1 (by decide) (by decide) ?_
                    refine XS.iloadN X4_.here hx rfl (hC e18_67.2.2.2) rfl ?_
                    refine XS.bipush X4_.here hx rfl (hC e18_80.1) ?_
                    refine XS.icmpNo X4_.here hx rfl (hC e18_80.2.1) rfl (feq (hm5 : ¬ ((own_ch (f (0 : Int32))) = (46 : Int32)))).1 ?_
                    refine XS.iloadN X4_.here hx rfl (hC e18_85.1) rfl ?_
                    refine XS.bipush X4_.here hx rfl (hC e18_85.2.1) ?_
                    refine XS.icmpNo X4_.here hx rfl (hC e18_85.2.2.1) rfl (feq (hm6 : ¬ ((own_ch (f (0 : Int32))) = (95 : Int32)))).1 ?_
                    refine XS.iloadN X4_.here hx rfl (hC e18_85.2.2.2) rfl ?_
                    refine XS.bipush X4_.here hx rfl (hC e18_92.1) ?_
                    refine XS.icmpNo X4_.here hx rfl (hC e18_92.2.1) rfl (feq (hm7 : ¬ ((own_ch (f (0 : Int32))) = (58 : Int32)))).1 ?_
                    refine XS.iloadN X4_.here hx rfl (hC e18_92.2.2.1) rfl ?_
                    show Steps pP.tables eE below (T4_.setTop (mkF mM 98 ll3 [(.int (own_ch (f (0 : Int32))))])) tT
                    refine XS.bipush X4_.here hx rfl (hC e18_92.2.2.2) ?_
                    refine XS.icmpYes X4_.here hx rfl (pc0 := 100) (pc' := 107) rfl (hC e18_100.1) rfl (feq (hm8 : ¬ ((own_ch (f (0 : Int32))) = (45 : Int32)))).2 (by decide) (by decide) ?_
                    refine XS.iconst X4_.here hx rfl (hC e18_100.2.1) ?_
                    exact kK
          · by_cases hm5 : (57 : Int32) < (own_ch (f (0 : Int32)))
            · by_cases hm6 : (own_ch (f (0 : Int32))) = (46 : Int32)
              · refine ⟨(1 : Int32), by rw [if_pos hm1, if_neg hm2, if_pos hm3, if_neg hm4, if_pos hm5, if_pos hm6], fun tT kK => ?_⟩
                refine XS.iloadN X4_.here hx rfl (hC e18_39.2.2.1) rfl ?_
                refine XS.bipush X4_.here hx rfl (hC e18_39.2.2.2) ?_
                refine XS.icmpYes X4_.here hx rfl (pc0 := 46) (pc' := 55) rfl (hC e18_46.1) rfl (tlt (hm1 : (own_ch (f (0 : Int32))) < (65 : Int32))).1 (by decide) (by decide) ?_
                refine XS.iloadN X4_.here hx rfl (hC e18_46.2.1) rfl ?_
                refine XS.bipush X4_.here hx rfl (hC e18_46.2.2.1) ?_
                refine XS.icmpNo X4_.here hx rfl (hC e18_46.2.2.2) rfl (flt (hm2 : ¬ ((own_ch (f (0 : Int32))) < (97 : Int32)))).1 ?_
                refine XS.iloadN X4_.here hx rfl (hC e18_76.2.1) rfl ?_
                refine XS.bipush X4_.here hx rfl (hC e18_76.2.2.1) ?_
                refine XS.icmpNo X4_.here hx rfl (hC e18_76.2.2.2) rfl (tlt (hm3 : (122 : Int32) < (own_ch (f (0 : Int32))))).2.2.2 ?_
                refine XS.iloadN X4_.here hx rfl (hC e18_67.1) rfl ?_
                refine XS.bipush X4_.here hx rfl (hC e18_67.2.1) ?_
                refine XS.icmpNo X4_.here hx rfl (hC e18_67.2.2.1) rfl (flt (hm4 : ¬ ((own_ch (f (0 : Int32))) < (48 : Int32)))).1 ?_
                refine XS.iloadN X4_.here hx rfl (hC e18_100.2.2.1) rfl ?_
                refine XS.bipush X4_.here hx rfl (hC e18_100.2.2.2) ?_
                refine XS.icmpNo X4_.here hx rfl (hC e18_76.1) rfl (tlt (hm5 : (57 : Int32) < (own_ch (f (0 : Int32))))).2.2.2 ?_
                refine XS.iloadN X4_.here hx rfl (hC e18_67.2.2.2) rfl ?_
                refine XS.bipush X4_.here hx rfl (hC e18_80.1) ?_
                refine XS.icmpYes X4_.here hx rfl (pc0 := 82) (pc' := 103) rfl (hC e18_80.2.1) rfl (teq (hm6 : (own_ch (f (0 : Int32))) = (46 : Int32))).1 (by decide) (by decide) ?_
                refine XS.iconst X4_.here hx rfl (hC e18_80.2.2.1) ?_
                refine XS.goto X4_.here hx rfl (pc0 := 104) (pc' := 108) rfl (hC e18_80.2.2.2) (by decide) (by decide) ?_
                exact kK
              · by_cases hm7 : (own_ch (f (0 : Int32))) = (95 : Int32)
                · refine ⟨(1 : Int32), by rw [if_pos hm1, if_neg hm2, if_pos hm3, if_neg hm4, if_pos hm5, if_neg hm6, if_pos hm7], fun tT kK => ?_⟩
                  refine XS.iloadN X4_.here hx rfl (hC e18_39.2.2.1) rfl ?_
                  refine XS.bipush X4_.here hx rfl (hC e18_39.2.2.2) ?_
                  refine XS.icmpYes X4_.here hx rfl (pc0 := 46) (pc' := 55) rfl (hC e18_46.1) rfl (tlt (hm1 : (own_ch (f (0 : Int32))) < (65 : Int32))).1 (by decide) (by decide) ?_
                  refine XS.iloadN X4_.here hx rfl (hC e18_46.2.1) rfl ?_
                  refine XS.bipush X4_.here hx rfl (hC e18_46.2.2.1) ?_
                  refine XS.icmpNo X4_.here hx rfl (hC e18_46.2.2.2) rfl (flt (hm2 : ¬ ((own_ch (f (0 : Int32))) < (97 : Int32)))).1 ?_
                  refine XS.iloadN X4_.here hx rfl (hC e18_76.2.1) rfl ?_
                  refine XS.bipush X4_.here hx rfl (hC e18_76.2.2.1) ?_
                  refine XS.icmpNo X4_.here hx rfl (hC e18_76.2.2.2) rfl (tlt (hm3 : (122 : Int32) < (own_ch (f (0 : Int32))))).2.2.2 ?_
                  refine XS.iloadN X4_.here hx rfl (hC e18_67.1) rfl ?_
                  refine XS.bipush X4_.here hx rfl (hC e18_67.2.1) ?_
                  refine XS.icmpNo X4_.here hx rfl (hC e18_67.2.2.1) rfl (flt (hm4 : ¬ ((own_ch (f (0 : Int32))) < (48 : Int32)))).1 ?_
                  refine XS.iloadN X4_.here hx rfl (hC e18_100.2.2.1) rfl ?_
                  refine XS.bipush X4_.here hx rfl (hC e18_100.2.2.2) ?_
                  refine XS.icmpNo X4_.here hx rfl (hC e18_76.1) rfl (tlt (hm5 : (57 : Int32) < (own_ch (f (0 : Int32))))).2.2.2 ?_
                  refine XS.iloadN X4_.here hx rfl (hC e18_67.2.2.2) rfl ?_
                  refine XS.bipush X4_.here hx rfl (hC e18_80.1) ?_
                  refine XS.icmpNo X4_.here hx rfl (hC e18_80.2.1) rfl (feq (hm6 : ¬ ((own_ch (f (0 : Int32))) = (46 : Int32)))).1 ?_
                  refine XS.iloadN X4_.here hx rfl (hC e18_85.1) rfl ?_
                  refine XS.bipush X4_.here hx rfl (hC e18_85.2.1) ?_
                  refine XS.icmpYes X4_.here hx rfl (pc0 := 88) (pc' := 103) rfl (hC e18_85.2.2.1) rfl (teq (hm7 : (own_ch (f (0 : Int32))) = (95 : Int32))).1 (by decide) (by decide) ?_
                  refine XS.iconst X4_.here hx rfl (hC e18_80.2.2.1) ?_
                  show Steps pP.tables eE below (T4_.setTop (mkF mM 104 ll3 [(.int (1 : Int32))])) tT
                  refine XS.goto X4_.here hx rfl (pc0 := 104) (pc' := 108) rfl (hC e18_80.2.2.2) (by decide) (by decide) ?_
                  exact kK
                · by_cases hm8 : (own_ch (f (0 : Int32))) = (58 : Int32)
                  · refine ⟨(1 : Int32), by rw [if_pos hm1, if_neg hm2, if_pos hm3, if_neg hm4, if_pos hm5, if_neg hm6, if_neg hm7, if_pos hm8], fun tT kK => ?_⟩
                    refine XS.iloadN X4_.here hx rfl (hC e18_39.2.2.1) rfl ?_
                    refine XS.bipush X4_.here hx rfl (hC e18_39.2.2.2) ?_
                    refine XS.icmpYes X4_.here hx rfl (pc0 := 46) (pc' := 55) rfl (hC e18_46.1) rfl (tlt (hm1 : (own_ch (f (0 : Int32))) < (65 : Int32))).1 (by decide) (by decide) ?_
                    refine XS.iloadN X4_.here hx rfl (hC e18_46.2.1) rfl ?_
                    refine XS.bipush X4_.here hx rfl (hC e18_46.2.2.1) ?_
                    refine XS.icmpNo X4_.here hx rfl (hC e18_46.2.2.2) rfl (flt (hm2 : ¬ ((own_ch (f (0 : Int32))) < (97 : Int32)))).1 ?_
                    refine XS.iloadN X4_.here hx rfl (hC e18_76.2.1) rfl ?_
                    refine XS.bipush X4_.here hx rfl (hC e18_76.2.2.1) ?_
                    refine XS.icmpNo X4_.here hx rfl (hC e18_76.2.2.2) rfl (tlt (hm3 : (122 : Int32) < (own_ch (f (0 : Int32))))).2.2.2 ?_
                    refine XS.iloadN X4_.here hx rfl (hC e18_67.1) rfl ?_
                    refine XS.bipush X4_.here hx rfl (hC e18_67.2.1) ?_
                    refine XS.icmpNo X4_.here hx rfl (hC e18_67.2.2.1) rfl (flt (hm4 : ¬ ((own_ch (f (0 : Int32))) < (48 : Int32)))).1 ?_
                    refine XS.iloadN X4_.here hx rfl (hC e18_100.2.2.1) rfl ?_
                    refine XS.bipush X4_.here hx rfl (hC e18_100.2.2.2) ?_
                    refine XS.icmpNo X4_.here hx rfl (hC e18_76.1) rfl (tlt (hm5 : (57 : Int32) < (own_ch (f (0 : Int32))))).2.2.2 ?_
                    refine XS.iloadN X4_.here hx rfl (hC e18_67.2.2.2) rfl ?_
                    refine XS.bipush X4_.here hx rfl (hC e18_80.1) ?_
                    refine XS.icmpNo X4_.here hx rfl (hC e18_80.2.1) rfl (feq (hm6 : ¬ ((own_ch (f (0 : Int32))) = (46 : Int32)))).1 ?_
                    refine XS.iloadN X4_.here hx rfl (hC e18_85.1) rfl ?_
                    refine XS.bipush X4_.here hx rfl (hC e18_85.2.1) ?_
                    refine XS.icmpNo X4_.here hx rfl (hC e18_85.2.2.1) rfl (feq (hm7 : ¬ ((own_ch (f (0 : Int32))) = (95 : Int32)))).1 ?_
                    refine XS.iloadN X4_.here hx rfl (hC e18_85.2.2.2) rfl ?_
                    show Steps pP.tables eE below (T4_.setTop (mkF mM 92 ll3 [(.int (own_ch (f (0 : Int32))))])) tT
                    refine XS.bipush X4_.here hx rfl (hC e18_92.1) ?_
                    refine XS.icmpYes X4_.here hx rfl (pc0 := 94) (pc' := 103) rfl (hC e18_92.2.1) rfl (teq (hm8 : (own_ch (f (0 : Int32))) = (58 : Int32))).1 (by decide) (by decide) ?_
                    refine XS.iconst X4_.here hx rfl (hC e18_80.2.2.1) ?_
                    refine XS.goto X4_.here hx rfl (pc0 := 104) (pc' := 108) rfl (hC e18_80.2.2.2) (by decide) (by decide) ?_
                    exact kK
                  · by_cases hm9 : (own_ch (f (0 : Int32))) = (45 : Int32)
                    · refine ⟨(1 : Int32), by rw [if_pos hm1, if_neg hm2, if_pos hm3, if_neg hm4, if_pos hm5, if_neg hm6, if_neg hm7, if_neg hm8, if_pos hm9], fun tT kK => ?_⟩
                      refine XS.iloadN X4_.here hx rfl (hC e18_39.2.2.1) rfl ?_
                      refine XS.bipush X4_.here hx rfl (hC e18_39.2.2.2) ?_
                      refine XS.icmpYes X4_.here hx rfl (pc0 := 46) (pc' := 55) rfl (hC e18_46.1) rfl (tlt (hm1 : (own_ch (f (0 : Int32))) < (65 : Int32))).1 (by decide) (by decide) ?_
                      refine XS.iloadN X4_.here hx rfl (hC e18_46.2.1) rfl ?_
                      refine XS.bipush X4_.here hx rfl (hC e18_46.2.2.1) ?_
                      refine XS.icmpNo X4_.here hx rfl (hC e18_46.2.2.2) rfl (flt (hm2 : ¬ ((own_ch (f (0 : Int32))) < (97 : Int32)))).1 ?_
                      refine XS.iloadN X4_.here hx rfl (hC e18_76.2.1) rfl ?_
                      refine XS.bipush X4_.here hx rfl (hC e18_76.2.2.1) ?_
                      refine XS.icmpNo X4_.here hx rfl (hC e18_76.2.2.2) rfl (tlt (hm3 : (122 : Int32) < (own_ch (f (0 : Int32))))).2.2.2 ?_
                      refine XS.iloadN X4_.here hx rfl (hC e18_67.1) rfl ?_
                      refine XS.bipush X4_.here hx rfl (hC e18_67.2.1) ?_
                      refine XS.icmpNo X4_.here hx rfl (hC e18_67.2.2.1) rfl (flt (hm4 : ¬ ((own_ch (f (0 : Int32))) < (48 : Int32)))).1 ?_
                      refine XS.iloadN X4_.here hx rfl (hC e18_100.2.2.1) rfl ?_
                      refine XS.bipush X4_.here hx rfl (hC e18_100.2.2.2) ?_
                      refine XS.icmpNo X4_.here hx rfl (hC e18_76.1) rfl (tlt (hm5 : (57 : Int32) < (own_ch (f (0 : Int32))))).2.2.2 ?_
                      refine XS.iloadN X4_.here hx rfl (hC e18_67.2.2.2) rfl ?_
                      refine XS.bipush X4_.here hx rfl (hC e18_80.1) ?_
                      refine XS.icmpNo X4_.here hx rfl (hC e18_80.2.1) rfl (feq (hm6 : ¬ ((own_ch (f (0 : Int32))) = (46 : Int32)))).1 ?_
                      refine XS.iloadN X4_.here hx rfl (hC e18_85.1) rfl ?_
                      refine XS.bipush X4_.here hx rfl (hC e18_85.2.1) ?_
                      refine XS.icmpNo X4_.here hx rfl (hC e18_85.2.2.1) rfl (feq (hm7 : ¬ ((own_ch (f (0 : Int32))) = (95 : Int32)))).1 ?_
                      refine XS.iloadN X4_.here hx rfl (hC e18_85.2.2.2) rfl ?_
                      show Steps pP.tables eE below (T4_.setTop (mkF mM 92 ll3 [(.int (own_ch (f (0 : Int32))))])) tT
                      refine XS.bipush X4_.here hx rfl (hC e18_92.1) ?_
                      refine XS.icmpNo X4_.here hx rfl (hC e18_92.2.1) rfl (feq (hm8 : ¬ ((own_ch (f (0 : Int32))) = (58 : Int32)))).1 ?_
                      refine XS.iloadN X4_.here hx rfl (hC e18_92.2.2.1) rfl ?_
                      refine XS.bipush X4_.here hx rfl (hC e18_92.2.2.2) ?_
                      refine XS.icmpNo X4_.here hx rfl (hC e18_100.1) rfl (teq (hm9 : (own_ch (f (0 : Int32))) = (45 : Int32))).2 ?_
                      refine XS.iconst X4_.here hx rfl (hC e18_80.2.2.1) ?_
                      refine XS.goto X4_.here hx rfl (pc0 := 104) (pc' := 108) rfl (hC e18_80.2.2.2) (by decide) (by decide) ?_
                      exact kK
                    · refine ⟨(0 : Int32), by rw [if_pos hm1, if_neg hm2, if_pos hm3, if_neg hm4, if_pos hm5, if_neg hm6, if_neg hm7, if_neg hm8, if_neg hm9], fun tT kK => ?_⟩
                      refine XS.iloadN X4_.here hx rfl (hC e18_39.2.2.1) rfl ?_
                      refine XS.bipush X4_.here hx rfl (hC e18_39.2.2.2) ?_
                      refine XS.icmpYes X4_.here hx rfl (pc0 := 46) (pc' := 55) rfl (hC e18_46.1) rfl (tlt (hm1 : (own_ch (f (0 : Int32))) < (65 : Int32))).1 (by decide) (by decide) ?_
                      refine XS.iloadN X4_.here hx rfl (hC e18_46.2.1) rfl ?_
                      refine XS.bipush X4_.here hx rfl (hC e18_46.2.2.1) ?_
                      refine XS.icmpNo X4_.here hx rfl (hC e18_46.2.2.2) rfl (flt (hm2 : ¬ ((own_ch (f (0 : Int32))) < (97 : Int32)))).1 ?_
                      refine XS.iloadN X4_.here hx rfl (hC e18_76.2.1) rfl ?_
                      refine XS.bipush X4_.here hx rfl (hC e18_76.2.2.1) ?_
                      refine XS.icmpNo X4_.here hx rfl (hC e18_76.2.2.2) rfl (tlt (hm3 : (122 : Int32) < (own_ch (f (0 : Int32))))).2.2.2 ?_
                      refine XS.iloadN X4_.here hx rfl (hC e18_67.1) rfl ?_
                      refine XS.bipush X4_.here hx rfl (hC e18_67.2.1) ?_
                      refine XS.icmpNo X4_.here hx rfl (hC e18_67.2.2.1) rfl (flt (hm4 : ¬ ((own_ch (f (0 : Int32))) < (48 : Int32)))).1 ?_
                      refine XS.iloadN X4_.here hx rfl (hC e18_100.2.2.1) rfl ?_
                      refine XS.bipush X4_.here hx rfl (hC e18_100.2.2.2) ?_
                      refine XS.icmpNo X4_.here hx rfl (hC e18_76.1) rfl (tlt (hm5 : (57 : Int32) < (own_ch (f (0 : Int32))))).2.2.2 ?_
                      refine XS.iloadN X4_.here hx rfl (hC e18_67.2.2.2) rfl ?_
                      refine XS.bipush X4_.here hx rfl (hC e18_80.1) ?_
                      refine XS.icmpNo X4_.here hx rfl (hC e18_80.2.1) rfl (feq (hm6 : ¬ ((own_ch (f (0 : Int32))) = (46 : Int32)))).1 ?_
                      refine XS.iloadN X4_.here hx rfl (hC e18_85.1) rfl ?_
                      refine XS.bipush X4_.here hx rfl (hC e18_85.2.1) ?_
                      refine XS.icmpNo X4_.here hx rfl (hC e18_85.2.2.1) rfl (feq (hm7 : ¬ ((own_ch (f (0 : Int32))) = (95 : Int32)))).1 ?_
                      refine XS.iloadN X4_.here hx rfl (hC e18_85.2.2.2) rfl ?_
                      show Steps pP.tables eE below (T4_.setTop (mkF mM 92 ll3 [(.int (own_ch (f (0 : Int32))))])) tT
                      refine XS.bipush X4_.here hx rfl (hC e18_92.1) ?_
                      refine XS.icmpNo X4_.here hx rfl (hC e18_92.2.1) rfl (feq (hm8 : ¬ ((own_ch (f (0 : Int32))) = (58 : Int32)))).1 ?_
                      refine XS.iloadN X4_.here hx rfl (hC e18_92.2.2.1) rfl ?_
                      refine XS.bipush X4_.here hx rfl (hC e18_92.2.2.2) ?_
                      refine XS.icmpYes X4_.here hx rfl (pc0 := 100) (pc' := 107) rfl (hC e18_100.1) rfl (feq (hm9 : ¬ ((own_ch (f (0 : Int32))) = (45 : Int32)))).2 (by decide) (by decide) ?_
                      refine XS.iconst X4_.here hx rfl (hC e18_100.2.1) ?_
                      exact kK
            · refine ⟨(1 : Int32), by rw [if_pos hm1, if_neg hm2, if_pos hm3, if_neg hm4, if_neg hm5], fun tT kK => ?_⟩
              refine XS.iloadN X4_.here hx rfl (hC e18_39.2.2.1) rfl ?_
              refine XS.bipush X4_.here hx rfl (hC e18_39.2.2.2) ?_
              refine XS.icmpYes X4_.here hx rfl (pc0 := 46) (pc' := 55) rfl (hC e18_46.1) rfl (tlt (hm1 : (own_ch (f (0 : Int32))) < (65 : Int32))).1 (by decide) (by decide) ?_
              refine XS.iloadN X4_.here hx rfl (hC e18_46.2.1) rfl ?_
              refine XS.bipush X4_.here hx rfl (hC e18_46.2.2.1) ?_
              refine XS.icmpNo X4_.here hx rfl (hC e18_46.2.2.2) rfl (flt (hm2 : ¬ ((own_ch (f (0 : Int32))) < (97 : Int32)))).1 ?_
              refine XS.iloadN X4_.here hx rfl (hC e18_76.2.1) rfl ?_
              refine XS.bipush X4_.here hx rfl (hC e18_76.2.2.1) ?_
              refine XS.icmpNo X4_.here hx rfl (hC e18_76.2.2.2) rfl (tlt (hm3 : (122 : Int32) < (own_ch (f (0 : Int32))))).2.2.2 ?_
              refine XS.iloadN X4_.here hx rfl (hC e18_67.1) rfl ?_
              refine XS.bipush X4_.here hx rfl (hC e18_67.2.1) ?_
              refine XS.icmpNo X4_.here hx rfl (hC e18_67.2.2.1) rfl (flt (hm4 : ¬ ((own_ch (f (0 : Int32))) < (48 : Int32)))).1 ?_
              refine XS.iloadN X4_.here hx rfl (hC e18_100.2.2.1) rfl ?_
              refine XS.bipush X4_.here hx rfl (hC e18_100.2.2.2) ?_
              refine XS.icmpYes X4_.here hx rfl (pc0 := 76) (pc' := 103) rfl (hC e18_76.1) rfl (flt (hm5 : ¬ ((57 : Int32) < (own_ch (f (0 : Int32)))))).2.2.2 (by decide) (by decide) ?_
              refine XS.iconst X4_.here hx rfl (hC e18_80.2.2.1) ?_
              refine XS.goto X4_.here hx rfl (pc0 := 104) (pc' := 108) rfl (hC e18_80.2.2.2) (by decide) (by decide) ?_
              exact kK
        · refine ⟨(1 : Int32), by rw [if_pos hm1, if_neg hm2, if_neg hm3], fun tT kK => ?_⟩
          refine XS.iloadN X4_.here hx rfl (hC e18_39.2.2.1) rfl ?_
          refine XS.bipush X4_.here hx rfl (hC e18_39.2.2.2) ?_
          refine XS.icmpYes X4_.here hx rfl (pc0 := 46) (pc' := 55) rfl (hC e18_46.1) rfl (tlt (hm1 : (own_ch (f (0 : Int32))) < (65 : Int32))).1 (by decide) (by decide) ?_
          refine XS.iloadN X4_.here hx rfl (hC e18_46.2.1) rfl ?_
          refine XS.bipush X4_.here hx rfl (hC e18_46.2.2.1) ?_
          refine XS.icmpNo X4_.here hx rfl (hC e18_46.2.2.2) rfl (flt (hm2 : ¬ ((own_ch (f (0 : Int32))) < (97 : Int32)))).1 ?_
          refine XS.iloadN X4_.here hx rfl (hC e18_76.2.1) rfl ?_
          refine XS.bipush X4_.here hx rfl (hC e18_76.2.2.1) ?_
          refine XS.icmpYes X4_.here hx rfl (pc0 := 64) (pc' := 103) rfl (hC e18_76.2.2.2) rfl (flt (hm3 : ¬ ((122 : Int32) < (own_ch (f (0 : Int32)))))).2.2.2 (by decide) (by decide) ?_
          refine XS.iconst X4_.here hx rfl (hC e18_80.2.2.1) ?_
          refine XS.goto X4_.here hx rfl (pc0 := 104) (pc' := 108) rfl (hC e18_80.2.2.2) (by decide) (by decide) ?_
          exact kK
    · by_cases hm2 : (90 : Int32) < (own_ch (f (0 : Int32)))
      · by_cases hm3 : (own_ch (f (0 : Int32))) < (97 : Int32)
        · by_cases hm4 : (own_ch (f (0 : Int32))) < (48 : Int32)
          · by_cases hm5 : (own_ch (f (0 : Int32))) = (46 : Int32)
            · refine ⟨(1 : Int32), by rw [if_neg hm1, if_pos hm2, if_pos hm3, if_pos hm4, if_pos hm5], fun tT kK => ?_⟩
              refine XS.iloadN X4_.here hx rfl (hC e18_39.2.2.1) rfl ?_
              refine XS.bipush X4_.here hx rfl (hC e18_39.2.2.2) ?_
              refine XS.icmpNo X4_.here hx rfl (hC e18_46.1) rfl (flt (hm1 : ¬ ((own_ch (f (0 : Int32))) < (65 : Int32)))).1 ?_
              refine XS.iloadN X4_.here hx rfl (hC e18_49.1) rfl ?_
              refine XS.bipush X4_.here hx rfl (hC e18_49.2.1) ?_
              refine XS.icmpNo X4_.here hx rfl (hC e18_49.2.2.1) rfl (tlt (hm2 : (90 : Int32) < (own_ch (f (0 : Int32))))).2.2.2 ?_
              refine XS.iloadN X4_.here hx rfl (hC e18_46.2.1) rfl ?_
              refine XS.bipush X4_.here hx rfl (hC e18_46.2.2.1) ?_
              refine XS.icmpYes X4_.here hx rfl (pc0 := 58) (pc' := 67) rfl (hC e18_46.2.2.2) rfl (tlt (hm3 : (own_ch (f (0 : Int32))) < (97 : Int32))).1 (by decide) (by decide) ?_
              refine XS.iloadN X4_.here hx rfl (hC e18_67.1) rfl ?_
              refine XS.bipush X4_.here hx rfl (hC e18_67.2.1) ?_
              refine XS.icmpYes X4_.here hx rfl (pc0 := 70) (pc' := 79) rfl (hC e18_67.2.2.1) rfl (tlt (hm4 : (own_ch (f (0 : Int32))) < (48 : Int32))).1 (by decide) (by decide) ?_
              refine XS.iloadN X4_.here hx rfl (hC e18_67.2.2.2) rfl ?_
              refine XS.bipush X4_.here hx rfl (hC e18_80.1) ?_
              refine XS.icmpYes X4_.here hx rfl (pc0 := 82) (pc' := 103) rfl (hC e18_80.2.1) rfl (teq (hm5 : (own_ch (f (0 : Int32))) = (46 : Int32))).1 (by decide) (by decide) ?_
              refine XS.iconst X4_.here hx rfl (hC e18_80.2.2.1) ?_
              refine XS.goto X4_.here hx rfl (pc0 := 104) (pc' := 108) rfl (hC e18_80.2.2.2) (by decide) (by decide) ?_
              exact kK
            · by_cases hm6 : (own_ch (f (0 : Int32))) = (95 : Int32)
              · refine ⟨(1 : Int32), by rw [if_neg hm1, if_pos hm2, if_pos hm3, if_pos hm4, if_neg hm5, if_pos hm6], fun tT kK => ?_⟩
                refine XS.iloadN X4_.here hx rfl (hC e18_39.2.2.1) rfl ?_
                refine XS.bipush X4_.here hx rfl (hC e18_39.2.2.2) ?_
                refine XS.icmpNo X4_.here hx rfl (hC e18_46.1) rfl (flt (hm1 : ¬ ((own_ch (f (0 : Int32))) < (65 : Int32)))).1 ?_
                refine XS.iloadN X4_.here hx rfl (hC e18_49.1) rfl ?_
                refine XS.bipush X4_.here hx rfl (hC e18_49.2.1) ?_
                refine XS.icmpNo X4_.here hx rfl (hC e18_49.2.2.1) rfl (tlt (hm2 : (90 : Int32) < (own_ch (f (0 : Int32))))).2.2.2 ?_
                refine XS.iloadN X4_.here hx rfl (hC e18_46.2.1) rfl ?_
                refine XS.bipush X4_.here hx rfl (hC e18_46.2.2.1) ?_
                refine XS.icmpYes X4_.here hx rfl (pc0 := 58) (pc' := 67) rfl (hC e18_46.2.2.2) rfl (tlt (hm3 : (own_ch (f (0 : Int32))) < (97 : Int32))).1 (by decide) (by decide) ?_
                refine XS.iloadN X4_.here hx rfl (hC e18_67.1) rfl ?_
                refine XS.bipush X4_.here hx rfl (hC e18_67.2.1) ?_
                refine XS.icmpYes X4_.here hx rfl (pc0 := 70) (pc' := 79) rfl (hC e18_67.2.2.1) rfl (tlt (hm4 : (own_ch (f (0 : Int32))) < (48 : Int32))).1 (by decide) (by decide) ?_
                refine XS.iloadN X4_.here hx rfl (hC e18_67.2.2.2) rfl ?_
                refine XS.bipush X4_.here hx rfl (hC e18_80.1) ?_
                refine XS.icmpNo X4_.here hx rfl (hC e18_80.2.1) rfl (feq (hm5 : ¬ ((own_ch (f (0 : Int32))) = (46 : Int32)))).1 ?_
                refine XS.iloadN X4_.here hx rfl (hC e18_85.1) rfl ?_
                refine XS.bipush X4_.here hx rfl (hC e18_85.2.1) ?_
                refine XS.icmpYes X4_.here hx rfl (pc0 := 88) (pc' := 103) rfl (hC e18_85.2.2.1) rfl (teq (hm6 : (own_ch (f (0 : Int32))) = (95 : Int32))).1 (by decide) (by decide) ?_
                refine XS.iconst X4_.here hx rfl (hC e18_80.2.2.1) ?_
                refine XS.goto X4_.here hx rfl (pc0 := 104) (pc' := 108) rfl (hC e18_80.2.2.2) (by decide) (by decide) ?_
                exact kK
              · by_cases hm7 : (own_ch (f (0 : Int32))) = (58 : Int32)
                · refine ⟨(1 : Int32), by rw [if_neg hm1, if_pos hm2, if_pos hm3, if_pos hm4, if_neg hm5, if_neg hm6, if_pos hm7], fun tT kK => ?_⟩
                  refine XS.iloadN X4_.here hx rfl (hC e18_39.2.2.1) rfl ?_
                  refine XS.bipush X4_.here hx rfl (hC e18_39.2.2.2) ?_
                  refine XS.icmpNo X4_.here hx rfl (hC e18_46.1) rfl (flt (hm1 : ¬ ((own_ch (f (0 : Int32))) < (65 : Int32)))).1 ?_
                  refine XS.iloadN X4_.here hx rfl (hC e18_49.1) rfl ?_
                  refine XS.bipush X4_.here hx rfl (hC e18_49.2.1) ?_
                  refine XS.icmpNo X4_.here hx rfl (hC e18_49.2.2.1) rfl (tlt (hm2 : (90 : Int32) < (own_ch (f (0 : Int32))))).2.2.2 ?_
                  refine XS.iloadN X4_.here hx rfl (hC e18_46.2.1) rfl ?_
                  refine XS.bipush X4_.here hx rfl (hC e18_46.2.2.1) ?_
                  refine XS.icmpYes X4_.here hx rfl (pc0 := 58) (pc' := 67) rfl (hC e18_46.2.2.2) rfl (tlt (hm3 : (own_ch (f (0 : Int32))) < (97 : Int32))).1 (by decide) (by decide) ?_
                  refine XS.iloadN X4_.here hx rfl (hC e18_67.1) rfl ?_
                  refine XS.bipush X4_.here hx rfl (hC e18_67.2.1) ?_
                  refine XS.icmpYes X4_.here hx rfl (pc0 := 70) (pc' := 79) rfl (hC e18_67.2.2.1) rfl (tlt (hm4 : (own_ch (f (0 : Int32))) < (48 : Int32))).1 (by decide) (by decide) ?_
                  refine XS.iloadN X4_.here hx rfl (hC e18_67.2.2.2) rfl ?_
                  refine XS.bipush X4_.here hx rfl (hC e18_80.1) ?_
                  refine XS.icmpNo X4_.here hx rfl (hC e18_80.2.1) rfl (feq (hm5 : ¬ ((own_ch (f (0 : Int32))) = (46 : Int32)))).1 ?_
                  refine XS.iloadN X4_.here hx rfl (hC e18_85.1) rfl ?_
                  refine XS.bipush X4_.here hx rfl (hC e18_85.2.1) ?_
                  refine XS.icmpNo X4_.here hx rfl (hC e18_85.2.2.1) rfl (feq (hm6 : ¬ ((own_ch (f (0 : Int32))) = (95 : Int32)))).1 ?_
                  refine XS.iloadN X4_.here hx rfl (hC e18_85.2.2.2) rfl ?_
                  refine XS.bipush X4_.here hx rfl (hC e18_92.1) ?_
                  refine XS.icmpYes X4_.here hx rfl (pc0 := 94) (pc' := 103) rfl (hC e18_92.2.1) rfl (teq (hm7 : (own_ch (f (0 : Int32))) = (58 : Int32))).1 (by decide) (by decide) ?_
                  refine XS.iconst X4_.here hx rfl (hC e18_80.2.2.1) ?_
                  show Steps pP.tables eE below (T4_.setTop (mkF mM 104 ll3 [(.int (1 : Int32))])) tT
                  refine XS.goto X4_.here hx rfl (pc0 := 104) (pc' := 108) rfl (hC e18_80.2.2.2) (by decide) (by decide) ?_
                  exact kK
                · by_cases hm8 : (own_ch (f (0 : Int32))) = (45 : Int32)
                  · refine ⟨(1 : Int32), by rw [if_neg hm1, if_pos hm2, if_pos hm3, if_pos hm4, if_neg hm5, if_neg hm6, if_neg hm7, if_pos hm8], fun tT kK => ?_⟩
                    refine XS.iloadN X4_.here hx rfl (hC e18_39.2.2.1) rfl ?_
                    refine XS.bipush X4_.here hx rfl (hC e18_39.2.2.2) ?_
                    refine XS.icmpNo X4_.here hx rfl (hC e18_46.1) rfl (flt (hm1 : ¬ ((own_ch (f (0 : Int32))) < (65 : Int32)))).1 ?_
                    refine XS.iloadN X4_.here hx rfl (hC e18_49.1) rfl ?_
                    refine XS.bipush X4_.here hx rfl (hC e18_49.2.1) ?_
                    refine XS.icmpNo X4_.here hx rfl (hC e18_49.2.2.1) rfl (tlt (hm2 : (90 : Int32) < (own_ch (f (0 : Int32))))).2.2.2 ?_
                    refine XS.iloadN X4_.here hx rfl (hC e18_46.2.1) rfl ?_
                    refine XS.bipush X4_.here hx rfl (hC e18_46.2.2.1) ?_
                    refine XS.icmpYes X4_.here hx rfl (pc0 := 58) (pc' := 67) rfl (hC e18_46.2.2.2) rfl (tlt (hm3 : (own_ch (f (0 : Int32))) < (97 : Int32))).1 (by decide) (by decide) ?_
                    refine XS.iloadN X4_.here hx rfl (hC e18_67.1) rfl ?_
                    refine XS.bipush X4_.here hx rfl (hC e18_67.2.1) ?_
                    refine XS.icmpYes X4_.here hx rfl (pc0 := 70) (pc' := 79) rfl (hC e18_67.2.2.1) rfl (tlt (hm4 : (own_ch (f (0 : Int32))) < (48 : Int32))).1 (by decide) (by decide) ?_
                    refine XS.iloadN X4_.here hx rfl (hC e18_67.2.2.2) rfl ?_
                    refine XS.bipush X4_.here hx rfl (hC e18_80.1) ?_
                    refine XS.icmpNo X4_.here hx rfl (hC e18_80.2.1) rfl (feq (hm5 : ¬ ((own_ch (f (0 : Int32))) = (46 : Int32)))).1 ?_
                    refine XS.iloadN X4_.here hx rfl (hC e18_85.1) rfl ?_
                    refine XS.bipush X4_.here hx rfl (hC e18_85.2.1) ?_
                    refine XS.icmpNo X4_.here hx rfl (hC e18_85.2.2.1) rfl (feq (hm6 : ¬ ((own_ch (f (0 : Int32))) = (95 : Int32)))).1 ?_
                    refine XS.iloadN X4_.here hx rfl (hC e18_85.2.2.2) rfl ?_
                    refine XS.bipush X4_.here hx rfl (hC e18_92.1) ?_
                    refine XS.icmpNo X4_.here hx rfl (hC e18_92.2.1) rfl (feq (hm7 : ¬ ((own_ch (f (0 : Int32))) = (58 : Int32)))).1 ?_
                    refine XS.iloadN X4_.here hx rfl (hC e18_92.2.2.1) rfl ?_
                    show Steps pP.tables eE below (T4_.setTop (mkF mM 98 ll3 [(.int (own_ch (f (0 : Int32))))])) tT
                    refine XS.bipush X4_.here hx rfl (hC e18_92.2.2.2) ?_
                    refine XS.icmpNo X4_.here hx rfl (hC e18_100.1) rfl (teq (hm8 : (own_ch (f (0 : Int32))) = (45 : Int32))).2 ?_
                    refine XS.iconst X4_.here hx rfl (hC e18_80.2.2.1) ?_
                    refine XS.goto X4_.here hx rfl (pc0 := 104) (pc' := 108) rfl (hC e18_80.2.2.2) (by decide) (by decide) ?_
                    exact kK
                  · refine ⟨(0 : Int32), by rw [if_neg hm1, if_pos hm2, if_pos hm3, if_pos hm4, if_neg hm5, if_neg hm6, if_neg hm7, if_neg hm8], fun tT kK => ?_⟩
                    refine XS.iloadN X4_.here hx rfl (hC e18_39.2.2.1) rfl ?_
                    refine XS.bipush X4_.here hx rfl (hC e18_39.2.2.2) ?_
                    refine XS.icmpNo X4_.here hx rfl (hC e18_46.1) rfl (flt (hm1 : ¬ ((own_ch (f (0 : Int32))) < (65 : Int32)))).1 ?_
                    refine XS.iloadN X4_.here hx rfl (hC e18_49.1) rfl ?_
                    refine XS.bipush X4_.here hx rfl (hC e18_49.2.1) ?_
                    refine XS.icmpNo X4_.here hx rfl (hC e18_49.2.2.1) rfl (tlt (hm2 : (90 : Int32) < (own_ch (f (0 : Int32))))).2.2.2 ?_
                    refine XS.iloadN X4_.here hx rfl (hC e18_46.2.1) rfl ?_
                    refine XS.bipush X4_.here hx rfl (hC e18_46.2.2.1) ?_
                    refine XS.icmpYes X4_.here hx rfl (pc0 := 58) (pc' := 67) rfl (hC e18_46.2.2.2) rfl (tlt (hm3 : (own_ch (f (0 : Int32))) < (97 : Int32))).1 (by decide) (by decide) ?_
                    refine XS.iloadN X4_.here hx rfl (hC e18_67.1) rfl ?_
                    refine XS.bipush X4_.here hx rfl (hC e18_67.2.1) ?_
                    refine XS.icmpYes X4_.here hx rfl (pc0 := 70) (pc' := 79) rfl (hC e18_67.2.2.1) rfl (tlt (hm4 : (own_ch (f (0 : Int32))) < (48 : Int32))).1 (by decide) (by decide) ?_
                    refine XS.iloadN X4_.here hx rfl (hC e18_67.2.2.2) rfl ?_
                    refine XS.bipush X4_.here hx rfl (hC e18_80.1) ?_
                    refine XS.icmpNo X4_.here hx rfl (hC e18_80.2.1) rfl (feq (hm5 : ¬ ((own_ch (f (0 : Int32))) = (46 : Int32)))).1 ?_
                    refine XS.iloadN X4_.here hx rfl (hC e18_85.1) rfl ?_
                    refine XS.bipush X4_.here hx rfl (hC e18_85.2.1) ?_
                    refine XS.icmpNo X4_.here hx rfl (hC e18_85.2.2.1) rfl (feq (hm6 : ¬ ((own_ch (f (0 : Int32))) = (95 : Int32)))).1 ?_
                    refine XS.iloadN X4_.here hx rfl (hC e18_85.2.2.2) rfl ?_
                    refine XS.bipush X4_.here hx rfl (hC e18_92.1) ?_
                    refine XS.icmpNo X4_.here hx rfl (hC e18_92.2.1) rfl (feq (hm7 : ¬ ((own_ch (f (0 : Int32))) = (58 : Int32)))).1 ?_
                    refine XS.iloadN X4_.here hx rfl (hC e18_92.2.2.1) rfl ?_
                    show Steps pP.tables eE below (T4_.setTop (mkF mM 98 ll3 [(.int (own_ch (f (0 : Int32))))])) tT
                    refine XS.bipush X4_.here hx rfl (hC e18_92.2.2.2) ?_
                    refine XS.icmpYes X4_.here hx rfl (pc0 := 100) (pc' := 107) rfl (hC e18_100.1) rfl (feq (hm8 : ¬ ((own_ch (f (0 : Int32))) = (45 : Int32)))).2 (by decide) (by decide) ?_
                    refine XS.iconst X4_.here hx rfl (hC e18_100.2.1) ?_
                    exact kK
          · by_cases hm5 : (57 : Int32) < (own_ch (f (0 : Int32)))
            · by_cases hm6 : (own_ch (f (0 : Int32))) = (46 : Int32)
              · refine ⟨(1 : Int32), by rw [if_neg hm1, if_pos hm2, if_pos hm3, if_neg hm4, if_pos hm5, if_pos hm6], fun tT kK => ?_⟩
                refine XS.iloadN X4_.here hx rfl (hC e18_39.2.2.1) rfl ?_
                refine XS.bipush X4_.here hx rfl (hC e18_39.2.2.2) ?_
                refine XS.icmpNo X4_.here hx rfl (hC e18_46.1) rfl (flt (hm1 : ¬ ((own_ch (f (0 : Int32))) < (65 : Int32)))).1 ?_
                refine XS.iloadN X4_.here hx rfl (hC e18_49.1) rfl ?_
                refine XS.bipush X4_.here hx rfl (hC e18_49.2.1) ?_
                refine XS.icmpNo X4_.here hx rfl (hC e18_49.2.2.1) rfl (tlt (hm2 : (90 : Int32) < (own_ch (f (0 : Int32))))).2.2.2 ?_
                refine XS.iloadN X4_.here hx rfl (hC e18_46.2.1) rfl ?_
                refine XS.bipush X4_.here hx rfl (hC e18_46.2.2.1) ?_
                refine XS.icmpYes X4_.here hx rfl (pc0 := 58) (pc' := 67) rfl (hC e18_46.2.2.2) rfl (tlt (hm3 : (own_ch (f (0 : Int32))) < (97 : Int32))).1 (by decide) (by decide) ?_
                refine XS.iloadN X4_.here hx rfl (hC e18_67.1) rfl ?_
                refine XS.bipush X4_.here hx rfl (hC e18_67.2.1) ?_
                refine XS.icmpNo X4_.here hx rfl (hC e18_67.2.2.1) rfl (flt (hm4 : ¬ ((own_ch (f (0 : Int32))) < (48 : Int32)))).1 ?_
                refine XS.iloadN X4_.here hx rfl (hC e18_100.2.2.1) rfl ?_
                refine XS.bipush X4_.here hx rfl (hC e18_100.2.2.2) ?_
                refine XS.icmpNo X4_.here hx rfl (hC e18_76.1) rfl (tlt (hm5 : (57 : Int32) < (own_ch (f (0 : Int32))))).2.2.2 ?_
                refine XS.iloadN X4_.here hx rfl (hC e18_67.2.2.2) rfl ?_
                refine XS.bipush X4_.here hx rfl (hC e18_80.1) ?_
                refine XS.icmpYes X4_.here hx rfl (pc0 := 82) (pc' := 103) rfl (hC e18_80.2.1) rfl (teq (hm6 : (own_ch (f (0 : Int32))) = (46 : Int32))).1 (by decide) (by decide) ?_
                refine XS.iconst X4_.here hx rfl (hC e18_80.2.2.1) ?_
                refine XS.goto X4_.here hx rfl (pc0 := 104) (pc' := 108) rfl (hC e18_80.2.2.2) (by decide) (by decide) ?_
                exact kK
              · by_cases hm7 : (own_ch (f (0 : Int32))) = (95 : Int32)
                · refine ⟨(1 : Int32), by rw [if_neg hm1, if_pos hm2, if_pos hm3, if_neg hm4, if_pos hm5, if_neg hm6, if_pos hm7], fun tT kK => ?_⟩
                  refine XS.iloadN X4_.here hx rfl (hC e18_39.2.2.1) rfl ?_
                  refine XS.bipush X4_.here hx rfl (hC e18_39.2.2.2) ?_
                  refine XS.icmpNo X4_.here hx rfl (hC e18_46.1) rfl (flt (hm1 : ¬ ((own_ch (f (0 : Int32))) < (65 : Int32)))).1 ?_
                  refine XS.iloadN X4_.here hx rfl (hC e18_49.1) rfl ?_
                  refine XS.bipush X4_.here hx rfl (hC e18_49.2.1) ?_
                  refine XS.icmpNo X4_.here hx rfl (hC e18_49.2.2.1) rfl (tlt (hm2 : (90 : Int32) < (own_ch (f (0 : Int32))))).2.2.2 ?_
                  refine XS.iloadN X4_.here hx rfl (hC e18_46.2.1) rfl ?_
                  refine XS.bipush X4_.here hx rfl (hC e18_46.2.2.1) ?_
                  refine XS.icmpYes X4_.here hx rfl (pc0 := 58) (pc' := 67) rfl (hC e18_46.2.2.2) rfl (tlt (hm3 : (own_ch (f (0 : Int32))) < (97 : Int32))).1 (by decide) (by decide) ?_
                  refine XS.iloadN X4_.here hx rfl (hC e18_67.1) rfl ?_
                  refine XS.bipush X4_.here hx rfl (hC e18_67.2.1) ?_
                  refine XS.icmpNo X4_.here hx rfl (hC e18_67.2.2.1) rfl (flt (hm4 : ¬ ((own_ch (f (0 : Int32))) < (48 : Int32)))).1 ?_
                  refine XS.iloadN X4_.here hx rfl (hC e18_100.2.2.1) rfl ?_
                  refine XS.bipush X4_.here hx rfl (hC e18_100.2.2.2) ?_
                  refine XS.icmpNo X4_.here hx rfl (hC e18_76.1) rfl (tlt (hm5 : (57 : Int32) < (own_ch (f (0 : Int32))))).2.2.2 ?_
                  refine XS.iloadN X4_.here hx rfl (hC e18_67.2.2.2) rfl ?_
                  refine XS.bipush X4_.here hx rfl (hC e18_80.1) ?_
                  refine XS.icmpNo X4_.here hx rfl (hC e18_80.2.1) rfl (feq (hm6 : ¬ ((own_ch (f (0 : Int32))) = (46 : Int32)))).1 ?_
                  refine XS.iloadN X4_.here hx rfl (hC e18_85.1) rfl ?_
                  refine XS.bipush X4_.here hx rfl (hC e18_85.2.1) ?_
                  refine XS.icmpYes X4_.here hx rfl (pc0 := 88) (pc' := 103) rfl (hC e18_85.2.2.1) rfl (teq (hm7 : (own_ch (f (0 : Int32))) = (95 : Int32))).1 (by decide) (by decide) ?_
                  refine XS.iconst X4_.here hx rfl (hC e18_80.2.2.1) ?_
                  show Steps pP.tables eE below (T4_.setTop (mkF mM 104 ll3 [(.int (1 : Int32))])) tT
                  refine XS.goto X4_.here hx rfl (pc0 := 104) (pc' := 108) rfl (hC e18_80.2.2.2) (by decide) (by decide) ?_
                  exact kK
                · by_cases hm8 : (own_ch (f (0 : Int32))) = (58 : Int32)
                  · refine ⟨(1 : Int32), by rw [if_neg hm1, if_pos hm2, if_pos hm3, if_neg hm4, if_pos hm5, if_neg hm6, if_neg hm7, if_pos hm8], fun tT kK => ?_⟩
                    refine XS.iloadN X4_.here hx rfl (hC e18_39.2.2.1) rfl ?_
                    refine XS.bipush X4_.here hx rfl (hC e18_39.2.2.2) ?_
                    refine XS.icmpNo X4_.here hx rfl (hC e18_46.1) rfl (flt (hm1 : ¬ ((own_ch (f (0 : Int32))) < (65 : Int32)))).1 ?_
                    refine XS.iloadN X4_.here hx rfl (hC e18_49.1) rfl ?_
                    refine XS.bipush X4_.here hx rfl (hC e18_49.2.1) ?_
                    refine XS.icmpNo X4_.here hx rfl (hC e18_49.2.2.1) rfl (tlt (hm2 : (90 : Int32) < (own_ch (f (0 : Int32))))).2.2.2 ?_
                    refine XS.iloadN X4_.here hx rfl (hC e18_46.2.1) rfl ?_
                    refine XS.bipush X4_.here hx rfl (hC e18_46.2.2.1) ?_
                    refine XS.icmpYes X4_.here hx rfl (pc0 := 58) (pc' := 67) rfl (hC e18_46.2.2.2) rfl (tlt (hm3 : (own_ch (f (0 : Int32))) < (97 : Int32))).1 (by decide) (by decide) ?_
                    refine XS.iloadN X4_.here hx rfl (hC e18_67.1) rfl ?_
                    refine XS.bipush X4_.here hx rfl (hC e18_67.2.1) ?_
                    refine XS.icmpNo X4_.here hx rfl (hC e18_67.2.2.1) rfl (flt (hm4 : ¬ ((own_ch (f (0 : Int32))) < (48 : Int32)))).1 ?_
                    refine XS.iloadN X4_.here hx rfl (hC e18_100.2.2.1) rfl ?_
                    refine XS.bipush X4_.here hx rfl (hC e18_100.2.2.2) ?_
                    refine XS.icmpNo X4_.here hx rfl (hC e18_76.1) rfl (tlt (hm5 : (57 : Int32) < (own_ch (f (0 : Int32))))).2.2.2 ?_
                    refine XS.iloadN X4_.here hx rfl (hC e18_67.2.2.2) rfl ?_
                    refine XS.bipush X4_.here hx rfl (hC e18_80.1) ?_
                    refine XS.icmpNo X4_.here hx rfl (hC e18_80.2.1) rfl (feq (hm6 : ¬ ((own_ch (f (0 : Int32))) = (46 : Int32)))).1 ?_
                    refine XS.iloadN X4_.here hx rfl (hC e18_85.1) rfl ?_
                    refine XS.bipush X4_.here hx rfl (hC e18_85.2.1) ?_
                    refine XS.icmpNo X4_.here hx rfl (hC e18_85.2.2.1) rfl (feq (hm7 : ¬ ((own_ch (f (0 : Int32))) = (95 : Int32)))).1 ?_
                    refine XS.iloadN X4_.here hx rfl (hC e18_85.2.2.2) rfl ?_
                    show Steps pP.tables eE below (T4_.setTop (mkF mM 92 ll3 [(.int (own_ch (f (0 : Int32))))])) tT
                    refine XS.bipush X4_.here hx rfl (hC e18_92.1) ?_
                    refine XS.icmpYes X4_.here hx rfl (pc0 := 94) (pc' := 103) rfl (hC e18_92.2.1) rfl (teq (hm8 : (own_ch (f (0 : Int32))) = (58 : Int32))).1 (by decide) (by decide) ?_
                    refine XS.iconst X4_.here hx rfl (hC e18_80.2.2.1) ?_
                    refine XS.goto X4_.here hx rfl (pc0 := 104) (pc' := 108) rfl (hC e18_80.2.2.2) (by decide) (by decide) ?_
                    exact kK
                  · by_cases hm9 : (own_ch (f (0 : Int32))) = (45 : Int32)
                    · refine ⟨(1 : Int32), by rw [if_neg hm1, if_pos hm2, if_pos hm3, if_neg hm4, if_pos hm5, if_neg hm6, if_neg hm7, if_neg hm8, if_pos hm9], fun tT kK => ?_⟩
                      refine XS.iloadN X4_.here hx rfl (hC e18_39.2.2.1) rfl ?_
                      refine XS.bipush X4_.here hx rfl (hC e18_39.2.2.2) ?_
                      refine XS.icmpNo X4_.here hx rfl (hC e18_46.1) rfl (flt (hm1 : ¬ ((own_ch (f (0 : Int32))) < (65 : Int32)))).1 ?_
                      refine XS.iloadN X4_.here hx rfl (hC e18_49.1) rfl ?_
                      refine XS.bipush X4_.here hx rfl (hC e18_49.2.1) ?_
                      refine XS.icmpNo X4_.here hx rfl (hC e18_49.2.2.1) rfl (tlt (hm2 : (90 : Int32) < (own_ch (f (0 : Int32))))).2.2.2 ?_
                      refine XS.iloadN X4_.here hx rfl (hC e18_46.2.1) rfl ?_
                      refine XS.bipush X4_.here hx rfl (hC e18_46.2.2.1) ?_
                      refine XS.icmpYes X4_.here hx rfl (pc0 := 58) (pc' := 67) rfl (hC e18_46.2.2.2) rfl (tlt (hm3 : (own_ch (f (0 : Int32))) < (97 : Int32))).1 (by decide) (by decide) ?_
                      refine XS.iloadN X4_.here hx rfl (hC e18_67.1) rfl ?_
                      refine XS.bipush X4_.here hx rfl (hC e18_67.2.1) ?_
                      refine XS.icmpNo X4_.here hx rfl (hC e18_67.2.2.1) rfl (flt (hm4 : ¬ ((own_ch (f (0 : Int32))) < (48 : Int32)))).1 ?_
                      refine XS.iloadN X4_.here hx rfl (hC e18_100.2.2.1) rfl ?_
                      refine XS.bipush X4_.here hx rfl (hC e18_100.2.2.2) ?_
                      refine XS.icmpNo X4_.here hx rfl (hC e18_76.1) rfl (tlt (hm5 : (57 : Int32) < (own_ch (f (0 : Int32))))).2.2.2 ?_
                      refine XS.iloadN X4_.here hx rfl (hC e18_67.2.2.2) rfl ?_
                      refine XS.bipush X4_.here hx rfl (hC e18_80.1) ?_
                      refine XS.icmpNo X4_.here hx rfl (hC e18_80.2.1) rfl (feq (hm6 : ¬ ((own_ch (f (0 : Int32))) = (46 : Int32)))).1 ?_
                      refine XS.iloadN X4_.here hx rfl (hC e18_85.1) rfl ?_
                      refine XS.bipush X4_.here hx rfl (hC e18_85.2.1) ?_
                      refine XS.icmpNo X4_.here hx rfl (hC e18_85.2.2.1) rfl (feq (hm7 : ¬ ((own_ch (f (0 : Int32))) = (95 : Int32)))).1 ?_
                      refine XS.iloadN X4_.here hx rfl (hC e18_85.2.2.2) rfl ?_
                      show Steps pP.tables eE below (T4_.setTop (mkF mM 92 ll3 [(.int (own_ch (f (0 : Int32))))])) tT
                      refine XS.bipush X4_.here hx rfl (hC e18_92.1) ?_
                      refine XS.icmpNo X4_.here hx rfl (hC e18_92.2.1) rfl (feq (hm8 : ¬ ((own_ch (f (0 : Int32))) = (58 : Int32)))).1 ?_
                      refine XS.iloadN X4_.here hx rfl (hC e18_92.2.2.1) rfl ?_
                      refine XS.bipush X4_.here hx rfl (hC e18_92.2.2.2) ?_
                      refine XS.icmpNo X4_.here hx rfl (hC e18_100.1) rfl (teq (hm9 : (own_ch (f (0 : Int32))) = (45 : Int32))).2 ?_
                      refine XS.iconst X4_.here hx rfl (hC e18_80.2.2.1) ?_
                      refine XS.goto X4_.here hx rfl (pc0 := 104) (pc' := 108) rfl (hC e18_80.2.2.2) (by decide) (by decide) ?_
                      exact kK
                    · refine ⟨(0 : Int32), by rw [if_neg hm1, if_pos hm2, if_pos hm3, if_neg hm4, if_pos hm5, if_neg hm6, if_neg hm7, if_neg hm8, if_neg hm9], fun tT kK => ?_⟩
                      refine XS.iloadN X4_.here hx rfl (hC e18_39.2.2.1) rfl ?_
                      refine XS.bipush X4_.here hx rfl (hC e18_39.2.2.2) ?_
                      refine XS.icmpNo X4_.here hx rfl (hC e18_46.1) rfl (flt (hm1 : ¬ ((own_ch (f (0 : Int32))) < (65 : Int32)))).1 ?_
                      refine XS.iloadN X4_.here hx rfl (hC e18_49.1) rfl ?_
                      refine XS.bipush X4_.here hx rfl (hC e18_49.2.1) ?_
                      refine XS.icmpNo X4_.here hx rfl (hC e18_49.2.2.1) rfl (tlt (hm2 : (90 : Int32) < (own_ch (f (0 : Int32))))).2.2.2 ?_
                      refine XS.iloadN X4_.here hx rfl (hC e18_46.2.1) rfl ?_
                      refine XS.bipush X4_.here hx rfl (hC e18_46.2.2.1) ?_
                      refine XS.icmpYes X4_.here hx rfl (pc0 := 58) (pc' := 67) rfl (hC e18_46.2.2.2) rfl (tlt (hm3 : (own_ch (f (0 : Int32))) < (97 : Int32))).1 (by decide) (by decide) ?_
                      refine XS.iloadN X4_.here hx rfl (hC e18_67.1) rfl ?_
                      refine XS.bipush X4_.here hx rfl (hC e18_67.2.1) ?_
                      refine XS.icmpNo X4_.here hx rfl (hC e18_67.2.2.1) rfl (flt (hm4 : ¬ ((own_ch (f (0 : Int32))) < (48 : Int32)))).1 ?_
                      refine XS.iloadN X4_.here hx rfl (hC e18_100.2.2.1) rfl ?_
                      refine XS.bipush X4_.here hx rfl (hC e18_100.2.2.2) ?_
                      refine XS.icmpNo X4_.here hx rfl (hC e18_76.1) rfl (tlt (hm5 : (57 : Int32) < (own_ch (f (0 : Int32))))).2.2.2 ?_
                      refine XS.iloadN X4_.here hx rfl (hC e18_67.2.2.2) rfl ?_
                      refine XS.bipush X4_.here hx rfl (hC e18_80.1) ?_
                      refine XS.icmpNo X4_.here hx rfl (hC e18_80.2.1) rfl (feq (hm6 : ¬ ((own_ch (f (0 : Int32))) = (46 : Int32)))).1 ?_
                      refine XS.iloadN X4_.here hx rfl (hC e18_85.1) rfl ?_
                      refine XS.bipush X4_.here hx rfl (hC e18_85.2.1) ?_
                      refine XS.icmpNo X4_.here hx rfl (hC e18_85.2.2.1) rfl (feq (hm7 : ¬ ((own_ch (f (0 : Int32))) = (95 : Int32)))).1 ?_
                      refine XS.iloadN X4_.here hx rfl (hC e18_85.2.2.2) rfl ?_
                      show Steps pP.tables eE below (T4_.setTop (mkF mM 92 ll3 [(.int (own_ch (f (0 : Int32))))])) tT
                      refine XS.bipush X4_.here hx rfl (hC e18_92.1) ?_
                      refine XS.icmpNo X4_.here hx rfl (hC e18_92.2.1) rfl (feq (hm8 : ¬ ((own_ch (f (0 : Int32))) = (58 : Int32)))).1 ?_
                      refine XS.iloadN X4_.here hx rfl (hC e18_92.2.2.1) rfl ?_
                      refine XS.bipush X4_.here hx rfl (hC e18_92.2.2.2) ?_
                      refine XS.icmpYes X4_.here hx rfl (pc0 := 100) (pc' := 107) rfl (hC e18_100.1) rfl (feq (hm9 : ¬ ((own_ch (f (0 : Int32))) = (45 : Int32)))).2 (by decide) (by decide) ?_
                      refine XS.iconst X4_.here hx rfl (hC e18_100.2.1) ?_
                      exact kK
            · refine ⟨(1 : Int32), by rw [if_neg hm1, if_pos hm2, if_pos hm3, if_neg hm4, if_neg hm5], fun tT kK => ?_⟩
              refine XS.iloadN X4_.here hx rfl (hC e18_39.2.2.1) rfl ?_
              refine XS.bipush X4_.here hx rfl (hC e18_39.2.2.2) ?_
              refine XS.icmpNo X4_.here hx rfl (hC e18_46.1) rfl (flt (hm1 : ¬ ((own_ch (f (0 : Int32))) < (65 : Int32)))).1 ?_
              refine XS.iloadN X4_.here hx rfl (hC e18_49.1) rfl ?_
              refine XS.bipush X4_.here hx rfl (hC e18_49.2.1) ?_
              refine XS.icmpNo X4_.here hx rfl (hC e18_49.2.2.1) rfl (tlt (hm2 : (90 : Int32) < (own_ch (f (0 : Int32))))).2.2.2 ?_
              refine XS.iloadN X4_.here hx rfl (hC e18_46.2.1) rfl ?_
              refine XS.bipush X4_.here hx rfl (hC e18_46.2.2.1) ?_
              refine XS.icmpYes X4_.here hx rfl (pc0 := 58) (pc' := 67) rfl (hC e18_46.2.2.2) rfl (tlt (hm3 : (own_ch (f (0 : Int32))) < (97 : Int32))).1 (by decide) (by decide) ?_
              refine XS.iloadN X4_.here hx rfl (hC e18_67.1) rfl ?_
              refine XS.bipush X4_.here hx rfl (hC e18_67.2.1) ?_
              refine XS.icmpNo X4_.here hx rfl (hC e18_67.2.2.1) rfl (flt (hm4 : ¬ ((own_ch (f (0 : Int32))) < (48 : Int32)))).1 ?_
              refine XS.iloadN X4_.here hx rfl (hC e18_100.2.2.1) rfl ?_
              refine XS.bipush X4_.here hx rfl (hC e18_100.2.2.2) ?_
              refine XS.icmpYes X4_.here hx rfl (pc0 := 76) (pc' := 103) rfl (hC e18_76.1) rfl (flt (hm5 : ¬ ((57 : Int32) < (own_ch (f (0 : Int32)))))).2.2.2 (by decide) (by decide) ?_
              refine XS.iconst X4_.here hx rfl (hC e18_80.2.2.1) ?_
              refine XS.goto X4_.here hx rfl (pc0 := 104) (pc' := 108) rfl (hC e18_80.2.2.2) (by decide) (by decide) ?_
              exact kK
        · by_cases hm4 : (122 : Int32) < (own_ch (f (0 : Int32)))
          · by_cases hm5 : (own_ch (f (0 : Int32))) < (48 : Int32)
            · by_cases hm6 : (own_ch (f (0 : Int32))) = (46 : Int32)
              · refine ⟨(1 : Int32), by rw [if_neg hm1, if_pos hm2, if_neg hm3, if_pos hm4, if_pos hm5, if_pos hm6], fun tT kK => ?_⟩
                refine XS.iloadN X4_.here hx rfl (hC e18_39.2.2.1) rfl ?_
                refine XS.bipush X4_.here hx rfl (hC e18_39.2.2.2) ?_
                refine XS.icmpNo X4_.here hx rfl (hC e18_46.1) rfl (flt (hm1 : ¬ ((own_ch (f (0 : Int32))) < (65 : Int32)))).1 ?_
                refine XS.iloadN X4_.here hx rfl (hC e18_49.1) rfl ?_
                refine XS.bipush X4_.here hx rfl (hC e18_49.2.1) ?_
                refine XS.icmpNo X4_.here hx rfl (hC e18_49.2.2.1) rfl (tlt (hm2 : (90 : Int32) < (own_ch (f (0 : Int32))))).2.2.2 ?_
                refine XS.iloadN X4_.here hx rfl (hC e18_46.2.1) rfl ?_
                refine XS.bipush X4_.here hx rfl (hC e18_46.2.2.1) ?_
                refine XS.icmpNo X4_.here hx rfl (hC e18_46.2.2.2) rfl (flt (hm3 : ¬ ((own_ch (f (0 : Int32))) < (97 : Int32)))).1 ?_
                refine XS.iloadN X4_.here hx rfl (hC e18_76.2.1) rfl ?_
                refine XS.bipush X4_.here hx rfl (hC e18_76.2.2.1) ?_
                refine XS.icmpNo X4_.here hx rfl (hC e18_76.2.2.2) rfl (tlt (hm4 : (122 : Int32) < (own_ch (f (0 : Int32))))).2.2.2 ?_
                refine XS.iloadN X4_.here hx rfl (hC e18_67.1) rfl ?_
                refine XS.bipush X4_.here hx rfl (hC e18_67.2.1) ?_
                refine XS.icmpYes X4_.here hx rfl (pc0 := 70) (pc' := 79) rfl (hC e18_67.2.2.1) rfl (tlt (hm5 : (own_ch (f (0 : Int32))) < (48 : Int32))).1 (by decide) (by decide) ?_
                refine XS.iloadN X4_.here hx rfl (hC e18_67.2.2.2) rfl ?_
                refine XS.bipush X4_.here hx rfl (hC e18_80.1) ?_
                refine XS.icmpYes X4_.here hx rfl (pc0 := 82) (pc' := 103) rfl (hC e18_80.2.1) rfl (teq (hm6 : (own_ch (f (0 : Int32))) = (46 : Int32))).1 (by decide) (by decide) ?_
                refine XS.iconst X4_.here hx rfl (hC e18_80.2.2.1) ?_
                refine XS.goto X4_.here hx rfl (pc0 := 104) (pc' := 108) rfl (hC e18_80.2.2.2) (by decide) (by decide) ?_
                exact kK
              · by_cases hm7 : (own_ch (f (0 : Int32))) = (95 : Int32)
                · refine ⟨(1 : Int32), by rw [if_neg hm1, if_pos hm2, if_neg hm3, if_pos hm4, if_pos hm5, if_neg hm6, if_pos hm7], fun tT kK => ?_⟩
                  refine XS.iloadN X4_.here hx rfl (hC e18_39.2.2.1) rfl ?_
                  refine XS.bipush X4_.here hx rfl (hC e18_39.2.2.2) ?_
                  refine XS.icmpNo X4_.here hx rfl (hC e18_46.1) rfl (flt (hm1 : ¬ ((own_ch (f (0 : Int32))) < (65 : Int32)))).1 ?_
                  refine XS.iloadN X4_.here hx rfl (hC e18_49.1) rfl ?_
                  refine XS.bipush X4_.here hx rfl (hC e18_49.2.1) ?_
                  refine XS.icmpNo X4_.here hx rfl (hC e18_49.2.2.1) rfl (tlt (hm2 : (90 : Int32) < (own_ch (f (0 : Int32))))).2.2.2 ?_
                  refine XS.iloadN X4_.here hx rfl (hC e18_46.2.1) rfl ?_
                  refine XS.bipush X4_.here hx rfl (hC e18_46.2.2.1) ?_
                  refine XS.icmpNo X4_.here hx rfl (hC e18_46.2.2.2) rfl (flt (hm3 : ¬ ((own_ch (f (0 : Int32))) < (97 : Int32)))).1 ?_
                  refine XS.iloadN X4_.here hx rfl (hC e18_76.2.1) rfl ?_
                  refine XS.bipush X4_.here hx rfl (hC e18_76.2.2.1) ?_
                  refine XS.icmpNo X4_.here hx rfl (hC e18_76.2.2.2) rfl (tlt (hm4 : (122 : Int32) < (own_ch (f (0 : Int32))))).2.2.2 ?_
                  refine XS.iloadN X4_.here hx rfl (hC e18_67.1) rfl ?_
                  refine XS.bipush X4_.here hx rfl (hC e18_67.2.1) ?_
                  refine XS.icmpYes X4_.here hx rfl (pc0 := 70) (pc' := 79) rfl (hC e18_67.2.2.1) rfl (tlt (hm5 : (own_ch (f (0 : Int32))) < (48 : Int32))).1 (by decide) (by decide) ?_
                  refine XS.iloadN X4_.here hx rfl (hC e18_67.2.2.2) rfl ?_
                  refine XS.bipush X4_.here hx rfl (hC e18_80.1) ?_
                  refine XS.icmpNo X4_.here hx rfl (hC e18_80.2.1) rfl (feq (hm6 : ¬ ((own_ch (f (0 : Int32))) = (46 : Int32)))).1 ?_
                  refine XS.iloadN X4_.here hx rfl (hC e18_85.1) rfl ?_
                  refine XS.bipush X4_.here hx rfl (hC e18_85.2.1) ?_
                  refine XS.icmpYes X4_.here hx rfl (pc0 := 88) (pc' := 103) rfl (hC e18_85.2.2.1) rfl (teq (hm7 : (own_ch (f (0 : Int32))) = (95 : Int32))).1 (by decide) (by decide) ?_
                  refine XS.iconst X4_.here hx rfl (hC e18_80.2.2.1) ?_
                  show Steps pP.tables eE below (T4_.setTop (mkF mM 104 ll3 [(.int (1 : Int32))])) tT
                  refine XS.goto X4_.here hx rfl (pc0 := 104) (pc' := 108) rfl (hC e18_80.2.2.2) (by decide) (by decide) ?_
                  exact kK
                · by_cases hm8 : (own_ch (f (0 : Int32))) = (58 : Int32)
                  · refine ⟨(1 : Int32), by rw [if_neg hm1, if_pos hm2, if_neg hm3, if_pos hm4, if_pos hm5, if_neg hm6, if_neg hm7, if_pos hm8], fun tT kK => ?_⟩
                    refine XS.iloadN X4_.here hx rfl (hC e18_39.2.2.1) rfl ?_
                    refine XS.bipush X4_.here hx rfl (hC e18_39.2.2.2) ?_
                    refine XS.icmpNo X4_.here hx rfl (hC e18_46.1) rfl (flt (hm1 : ¬ ((own_ch (f (0 : Int32))) < (65 : Int32)))).1 ?_
                    refine XS.iloadN X4_.here hx rfl (hC e18_49.1) rfl ?_
                    refine XS.bipush X4_.here hx rfl (hC e18_49.2.1) ?_
                    refine XS.icmpNo X4_.here hx rfl (hC e18_49.2.2.1) rfl (tlt (hm2 : (90 : Int32) < (own_ch (f (0 : Int32))))).2.2.2 ?_
                    refine XS.iloadN X4_.here hx rfl (hC e18_46.2.1) rfl ?_
                    refine XS.bipush X4_.here hx rfl (hC e18_46.2.2.1) ?_
                    refine XS.icmpNo X4_.here hx rfl (hC e18_46.2.2.2) rfl (flt (hm3 : ¬ ((own_ch (f (0 : Int32))) < (97 : Int32)))).1 ?_
                    refine XS.iloadN X4_.here hx rfl (hC e18_76.2.1) rfl ?_
                    refine XS.bipush X4_.here hx rfl (hC e18_76.2.2.1) ?_
                    refine XS.icmpNo X4_.here hx rfl (hC e18_76.2.2.2) rfl (tlt (hm4 : (122 : Int32) < (own_ch (f (0 : Int32))))).2.2.2 ?_
                    refine XS.iloadN X4_.here hx rfl (hC e18_67.1) rfl ?_
                    refine XS.bipush X4_.here hx rfl (hC e18_67.2.1) ?_
                    refine XS.icmpYes X4_.here hx rfl (pc0 := 70) (pc' := 79) rfl (hC e18_67.2.2.1) rfl (tlt (hm5 : (own_ch (f (0 : Int32))) < (48 : Int32))).1 (by decide) (by decide) ?_
                    refine XS.iloadN X4_.here hx rfl (hC e18_67.2.2.2) rfl ?_
                    refine XS.bipush X4_.here hx rfl (hC e18_80.1) ?_
                    refine XS.icmpNo X4_.here hx rfl (hC e18_80.2.1) rfl (feq (hm6 : ¬ ((own_ch (f (0 : Int32))) = (46 : Int32)))).1 ?_
                    refine XS.iloadN X4_.here hx rfl (hC e18_85.1) rfl ?_
                    refine XS.bipush X4_.here hx rfl (hC e18_85.2.1) ?_
                    refine XS.icmpNo X4_.here hx rfl (hC e18_85.2.2.1) rfl (feq (hm7 : ¬ ((own_ch (f (0 : Int32))) = (95 : Int32)))).1 ?_
                    refine XS.iloadN X4_.here hx rfl (hC e18_85.2.2.2) rfl ?_
                    show Steps pP.tables eE below (T4_.setTop (mkF mM 92 ll3 [(.int (own_ch (f (0 : Int32))))])) tT
                    refine XS.bipush X4_.here hx rfl (hC e18_92.1) ?_
                    refine XS.icmpYes X4_.here hx rfl (pc0 := 94) (pc' := 103) rfl (hC e18_92.2.1) rfl (teq (hm8 : (own_ch (f (0 : Int32))) = (58 : Int32))).1 (by decide) (by decide) ?_
                    refine XS.iconst X4_.here hx rfl (hC e18_80.2.2.1) ?_
                    refine XS.goto X4_.here hx rfl (pc0 := 104) (pc' := 108) rfl (hC e18_80.2.2.2) (by decide) (by decide) ?_
                    exact kK
                  · by_cases hm9 : (own_ch (f (0 : Int32))) = (45 : Int32)
                    · refine ⟨(1 : Int32), by rw [if_neg hm1, if_pos hm2, if_neg hm3, if_pos hm4, if_pos hm5, if_neg hm6, if_neg hm7, if_neg hm8, if_pos hm9], fun tT kK => ?_⟩
                      refine XS.iloadN X4_.here hx rfl (hC e18_39.2.2.1) rfl ?_
                      refine XS.bipush X4_.here hx rfl (hC e18_39.2.2.2) ?_
                      refine XS.icmpNo X4_.here hx rfl (hC e18_46.1) rfl (flt (hm1 : ¬ ((own_ch (f (0 : Int32))) < (65 : Int32)))).1 ?_
                      refine XS.iloadN X4_.here hx rfl (hC e18_49.1) rfl ?_
                      refine XS.bipush X4_.here hx rfl (hC e18_49.2.1) ?_
                      refine XS.icmpNo X4_.here hx rfl (hC e18_49.2.2.1) rfl (tlt (hm2 : (90 : Int32) < (own_ch (f (0 : Int32))))).2.2.2 ?_
                      refine XS.iloadN X4_.here hx rfl (hC e18_46.2.1) rfl ?_
                      refine XS.bipush X4_.here hx rfl (hC e18_46.2.2.1) ?_
                      refine XS.icmpNo X4_.here hx rfl (hC e18_46.2.2.2) rfl (flt (hm3 : ¬ ((own_ch (f (0 : Int32))) < (97 : Int32)))).1 ?_
                      refine XS.iloadN X4_.here hx rfl (hC e18_76.2.1) rfl ?_
                      refine XS.bipush X4_.here hx rfl (hC e18_76.2.2.1) ?_
                      refine XS.icmpNo X4_.here hx rfl (hC e18_76.2.2.2) rfl (tlt (hm4 : (122 : Int32) < (own_ch (f (0 : Int32))))).2.2.2 ?_
                      refine XS.iloadN X4_.here hx rfl (hC e18_67.1) rfl ?_
                      refine XS.bipush X4_.here hx rfl (hC e18_67.2.1) ?_
                      refine XS.icmpYes X4_.here hx rfl (pc0 := 70) (pc' := 79) rfl (hC e18_67.2.2.1) rfl (tlt (hm5 : (own_ch (f (0 : Int32))) < (48 : Int32))).1 (by decide) (by decide) ?_
                      refine XS.iloadN X4_.here hx rfl (hC e18_67.2.2.2) rfl ?_
                      refine XS.bipush X4_.here hx rfl (hC e18_80.1) ?_
                      refine XS.icmpNo X4_.here hx rfl (hC e18_80.2.1) rfl (feq (hm6 : ¬ ((own_ch (f (0 : Int32))) = (46 : Int32)))).1 ?_
                      refine XS.iloadN X4_.here hx rfl (hC e18_85.1) rfl ?_
                      refine XS.bipush X4_.here hx rfl (hC e18_85.2.1) ?_
                      refine XS.icmpNo X4_.here hx rfl (hC e18_85.2.2.1) rfl (feq (hm7 : ¬ ((own_ch (f (0 : Int32))) = (95 : Int32)))).1 ?_
                      refine XS.iloadN X4_.here hx rfl (hC e18_85.2.2.2) rfl ?_
                      show Steps pP.tables eE below (T4_.setTop (mkF mM 92 ll3 [(.int (own_ch (f (0 : Int32))))])) tT
                      refine XS.bipush X4_.here hx rfl (hC e18_92.1) ?_
                      refine XS.icmpNo X4_.here hx rfl (hC e18_92.2.1) rfl (feq (hm8 : ¬ ((own_ch (f (0 : Int32))) = (58 : Int32)))).1 ?_
                      refine XS.iloadN X4_.here hx rfl (hC e18_92.2.2.1) rfl ?_
                      refine XS.bipush X4_.here hx rfl (hC e18_92.2.2.2) ?_
                      refine XS.icmpNo X4_.here hx rfl (hC e18_100.1) rfl (teq (hm9 : (own_ch (f (0 : Int32))) = (45 : Int32))).2 ?_
                      refine XS.iconst X4_.here hx rfl (hC e18_80.2.2.1) ?_
                      refine XS.goto X4_.here hx rfl (pc0 := 104) (pc' := 108) rfl (hC e18_80.2.2.2) (by decide) (by decide) ?_
                      exact kK
                    · refine ⟨(0 : Int32), by rw [if_neg hm1, if_pos hm2, if_neg hm3, if_pos hm4, if_pos hm5, if_neg hm6, if_neg hm7, if_neg hm8, if_neg hm9], fun tT kK => ?_⟩
                      refine XS.iloadN X4_.here hx rfl (hC e18_39.2.2.1) rfl ?_
                      refine XS.bipush X4_.here hx rfl (hC e18_39.2.2.2) ?_
                      refine XS.icmpNo X4_.here hx rfl (hC e18_46.1) rfl (flt (hm1 : ¬ ((own_ch (f (0 : Int32))) < (65 : Int32)))).1 ?_
                      refine XS.iloadN X4_.here hx rfl (hC e18_49.1) rfl ?_
                      refine XS.bipush X4_.here hx rfl (hC e18_49.2.1) ?_
                      refine XS.icmpNo X4_.here hx rfl (hC e18_49.2.2.1) rfl (tlt (hm2 : (90 : Int32) < (own_ch (f (0 : Int32))))).2.2.2 ?_
                      refine XS.iloadN X4_.here hx rfl (hC e18_46.2.1) rfl ?_
                      refine XS.bipush X4_.here hx rfl (hC e18_46.2.2.1) ?_
                      refine XS.icmpNo X4_.here hx rfl (hC e18_46.2.2.2) rfl (flt (hm3 : ¬ ((own_ch (f (0 : Int32))) < (97 : Int32)))).1 ?_
                      refine XS.iloadN X4_.here hx rfl (hC e18_76.2.1) rfl ?_
                      refine XS.bipush X4_.here hx rfl (hC e18_76.2.2.1) ?_
                      refine XS.icmpNo X4_.here hx rfl (hC e18_76.2.2.2) rfl (tlt (hm4 : (122 : Int32) < (own_ch (f (0 : Int32))))).2.2.2 ?_
                      refine XS.iloadN X4_.here hx rfl (hC e18_67.1) rfl ?_
                      refine XS.bipush X4_.here hx rfl (hC e18_67.2.1) ?_
                      refine XS.icmpYes X4_.here hx rfl (pc0 := 70) (pc' := 79) rfl (hC e18_67.2.2.1) rfl (tlt (hm5 : (own_ch (f (0 : Int32))) < (48 : Int32))).1 (by decide) (by decide) ?_
                      refine XS.iloadN X4_.here hx rfl (hC e18_67.2.2.2) rfl ?_
                      refine XS.bipush X4_.here hx rfl (hC e18_80.1) ?_
                      refine XS.icmpNo X4_.here hx rfl (hC e18_80.2.1) rfl (feq (hm6 : ¬ ((own_ch (f (0 : Int32))) = (46 : Int32)))).1 ?_
                      refine XS.iloadN X4_.here hx rfl (hC e18_85.1) rfl ?_
                      refine XS.bipush X4_.here hx rfl (hC e18_85.2.1) ?_
                      refine XS.icmpNo X4_.here hx rfl (hC e18_85.2.2.1) rfl (feq (hm7 : ¬ ((own_ch (f (0 : Int32))) = (95 : Int32)))).1 ?_
                      refine XS.iloadN X4_.here hx rfl (hC e18_85.2.2.2) rfl ?_
                      show Steps pP.tables eE below (T4_.setTop (mkF mM 92 ll3 [(.int (own_ch (f (0 : Int32))))])) tT
                      refine XS.bipush X4_.here hx rfl (hC e18_92.1) ?_
                      refine XS.icmpNo X4_.here hx rfl (hC e18_92.2.1) rfl (feq (hm8 : ¬ ((own_ch (f (0 : Int32))) = (58 : Int32)))).1 ?_
                      refine XS.iloadN X4_.here hx rfl (hC e18_92.2.2.1) rfl ?_
                      refine XS.bipush X4_.here hx rfl (hC e18_92.2.2.2) ?_
                      refine XS.icmpYes X4_.here hx rfl (pc0 := 100) (pc' := 107) rfl (hC e18_100.1) rfl (feq (hm9 : ¬ ((own_ch (f (0 : Int32))) = (45 : Int32)))).2 (by decide) (by decide) ?_
                      refine XS.iconst X4_.here hx rfl (hC e18_100.2.1) ?_
                      exact kK
            · by_cases hm6 : (57 : Int32) < (own_ch (f (0 : Int32)))
              · by_cases hm7 : (own_ch (f (0 : Int32))) = (46 : Int32)
                · refine ⟨(1 : Int32), by rw [if_neg hm1, if_pos hm2, if_neg hm3, if_pos hm4, if_neg hm5, if_pos hm6, if_pos hm7], fun tT kK => ?_⟩
                  refine XS.iloadN X4_.here hx rfl (hC e18_39.2.2.1) rfl ?_
                  refine XS.bipush X4_.here hx rfl (hC e18_39.2.2.2) ?_
                  refine XS.icmpNo X4_.here hx rfl (hC e18_46.1) rfl (flt (hm1 : ¬ ((own_ch (f (0 : Int32))) < (65 : Int32)))).1 ?_
                  refine XS.iloadN X4_.here hx rfl (hC e18_49.1) rfl ?_
                  refine XS.bipush X4_.here hx rfl (hC e18_49.2.1) ?_
                  refine XS.icmpNo X4_.here hx rfl (hC e18_49.2.2.1) rfl (tlt (hm2 : (90 : Int32) < (own_ch (f (0 : Int32))))).2.2.2 ?_
                  refine XS.iloadN X4_.here hx rfl (hC e18_46.2.1) rfl ?_
                  refine XS.bipush X4_.here hx rfl (hC e18_46.2.2.1) ?_
                  refine XS.icmpNo X4_.here hx rfl (hC e18_46.2.2.2) rfl (flt (hm3 : ¬ ((own_ch (f (0 : Int32))) < (97 : Int32)))).1 ?_
                  refine XS.iloadN X4_.here hx rfl (hC e18_76.2.1) rfl ?_
                  refine XS.bipush X4_.here hx rfl (hC e18_76.2.2.1) ?_
                  refine XS.icmpNo X4_.here hx rfl (hC e18_76.2.2.2) rfl (tlt (hm4 : (122 : Int32) < (own_ch (f (0 : Int32))))).2.2.2 ?_
                  refine XS.iloadN X4_.here hx rfl (hC e18_67.1) rfl ?_
                  refine XS.bipush X4_.here hx rfl (hC e18_67.2.1) ?_
                  refine XS.icmpNo X4_.here hx rfl (hC e18_67.2.2.1) rfl (flt (hm5 : ¬ ((own_ch (f (0 : Int32))) < (48 : Int32)))).1 ?_
                  refine XS.iloadN X4_.here hx rfl (hC e18_100.2.2.1) rfl ?_
                  refine XS.bipush X4_.here hx rfl (hC e18_100.2.2.2) ?_
                  refine XS.icmpNo X4_.here hx rfl (hC e18_76.1) rfl (tlt (hm6 : (57 : Int32) < (own_ch (f (0 : Int32))))).2.2.2 ?_
                  refine XS.iloadN X4_.here hx rfl (hC e18_67.2.2.2) rfl ?_
                  refine XS.bipush X4_.here hx rfl (hC e18_80.1) ?_
                  refine XS.icmpYes X4_.here hx rfl (pc0 := 82) (pc' := 103) rfl (hC e18_80.2.1) rfl (teq (hm7 : (own_ch (f (0 : Int32))) = (46 : Int32))).1 (by decide) (by decide) ?_
                  refine XS.iconst X4_.here hx rfl (hC e18_80.2.2.1) ?_
                  show Steps pP.tables eE below (T4_.setTop (mkF mM 104 ll3 [(.int (1 : Int32))])) tT
                  refine XS.goto X4_.here hx rfl (pc0 := 104) (pc' := 108) rfl (hC e18_80.2.2.2) (by decide) (by decide) ?_
                  exact kK
                · by_cases hm8 : (own_ch (f (0 : Int32))) = (95 : Int32)
                  · refine ⟨(1 : Int32), by rw [if_neg hm1, if_pos hm2, if_neg hm3, if_pos hm4, if_neg hm5, if_pos hm6, if_neg hm7, if_pos hm8], fun tT kK => ?_⟩
                    refine XS.iloadN X4_.here hx rfl (hC e18_39.2.2.1) rfl ?_
                    refine XS.bipush X4_.here hx rfl (hC e18_39.2.2.2) ?_
                    refine XS.icmpNo X4_.here hx rfl (hC e18_46.1) rfl (flt (hm1 : ¬ ((own_ch (f (0 : Int32))) < (65 : Int32)))).1 ?_
                    refine XS.iloadN X4_.here hx rfl (hC e18_49.1) rfl ?_
                    refine XS.bipush X4_.here hx rfl (hC e18_49.2.1) ?_
                    refine XS.icmpNo X4_.here hx rfl (hC e18_49.2.2.1) rfl (tlt (hm2 : (90 : Int32) < (own_ch (f (0 : Int32))))).2.2.2 ?_
                    refine XS.iloadN X4_.here hx rfl (hC e18_46.2.1) rfl ?_
                    refine XS.bipush X4_.here hx rfl (hC e18_46.2.2.1) ?_
                    refine XS.icmpNo X4_.here hx rfl (hC e18_46.2.2.2) rfl (flt (hm3 : ¬ ((own_ch (f (0 : Int32))) < (97 : Int32)))).1 ?_
                    refine XS.iloadN X4_.here hx rfl (hC e18_76.2.1) rfl ?_
                    refine XS.bipush X4_.here hx rfl (hC e18_76.2.2.1) ?_
                    refine XS.icmpNo X4_.here hx rfl (hC e18_76.2.2.2) rfl (tlt (hm4 : (122 : Int32) < (own_ch (f (0 : Int32))))).2.2.2 ?_
                    refine XS.iloadN X4_.here hx rfl (hC e18_67.1) rfl ?_
                    refine XS.bipush X4_.here hx rfl (hC e18_67.2.1) ?_
                    refine XS.icmpNo X4_.here hx rfl (hC e18_67.2.2.1) rfl (flt (hm5 : ¬ ((own_ch (f (0 : Int32))) < (48 : Int32)))).1 ?_
                    refine XS.iloadN X4_.here hx rfl (hC e18_100.2.2.1) rfl ?_
                    refine XS.bipush X4_.here hx rfl (hC e18_100.2.2.2) ?_
                    refine XS.icmpNo X4_.here hx rfl (hC e18_76.1) rfl (tlt (hm6 : (57 : Int32) < (own_ch (f (0 : Int32))))).2.2.2 ?_
                    refine XS.iloadN X4_.here hx rfl (hC e18_67.2.2.2) rfl ?_
                    refine XS.bipush X4_.here hx rfl (hC e18_80.1) ?_
                    refine XS.icmpNo X4_.here hx rfl (hC e18_80.2.1) rfl (feq (hm7 : ¬ ((own_ch (f (0 : Int32))) = (46 : Int32)))).1 ?_
                    refine XS.iloadN X4_.here hx rfl (hC e18_85.1) rfl ?_
                    show Steps pP.tables eE below (T4_.setTop (mkF mM 86 ll3 [(.int (own_ch (f (0 : Int32))))])) tT
                    refine XS.bipush X4_.here hx rfl (hC e18_85.2.1) ?_
                    refine XS.icmpYes X4_.here hx rfl (pc0 := 88) (pc' := 103) rfl (hC e18_85.2.2.1) rfl (teq (hm8 : (own_ch (f (0 : Int32))) = (95 : Int32))).1 (by decide) (by decide) ?_
                    refine XS.iconst X4_.here hx rfl (hC e18_80.2.2.1) ?_
                    refine XS.goto X4_.here hx rfl (pc0 := 104) (pc' := 108) rfl (hC e18_80.2.2.2) (by decide) (by decide) ?_
                    exact kK
                  · by_cases hm9 : (own_ch (f (0 : Int32))) = (58 : Int32)
                    · refine ⟨(1 : Int32), by rw [if_neg hm1, if_pos hm2, if_neg hm3, if_pos hm4, if_neg hm5, if_pos hm6, if_neg hm7, if_neg hm8, if_pos hm9], fun tT kK => ?_⟩
                      refine XS.iloadN X4_.here hx rfl (hC e18_39.2.2.1) rfl ?_
                      refine XS.bipush X4_.here hx rfl (hC e18_39.2.2.2) ?_
                      refine XS.icmpNo X4_.here hx rfl (hC e18_46.1) rfl (flt (hm1 : ¬ ((own_ch (f (0 : Int32))) < (65 : Int32)))).1 ?_
                      refine XS.iloadN X4_.here hx rfl (hC e18_49.1) rfl ?_
                      refine XS.bipush X4_.here hx rfl (hC e18_49.2.1) ?_
                      refine XS.icmpNo X4_.here hx rfl (hC e18_49.2.2.1) rfl (tlt (hm2 : (90 : Int32) < (own_ch (f (0 : Int32))))).2.2.2 ?_
                      refine XS.iloadN X4_.here hx rfl (hC e18_46.2.1) rfl ?_
                      refine XS.bipush X4_.here hx rfl (hC e18_46.2.2.1) ?_
                      refine XS.icmpNo X4_.here hx rfl (hC e18_46.2.2.2) rfl (flt (hm3 : ¬ ((own_ch (f (0 : Int32))) < (97 : Int32)))).1 ?_
                      refine XS.iloadN X4_.here hx rfl (hC e18_76.2.1) rfl ?_
                      refine XS.bipush X4_.here hx rfl (hC e18_76.2.2.1) ?_
                      refine XS.icmpNo X4_.here hx rfl (hC e18_76.2.2.2) rfl (tlt (hm4 : (122 : Int32) < (own_ch (f (0 : Int32))))).2.2.2 ?_
                      refine XS.iloadN X4_.here hx rfl (hC e18_67.1) rfl ?_
                      refine XS.bipush X4_.here hx rfl (hC e18_67.2.1) ?_
                      refine XS.icmpNo X4_.here hx rfl (hC e18_67.2.2.1) rfl (flt (hm5 : ¬ ((own_ch (f (0 : Int32))) < (48 : Int32)))).1 ?_
                      refine XS.iloadN X4_.here hx rfl (hC e18_100.2.2.1) rfl ?_
                      refine XS.bipush X4_.here hx rfl (hC e18_100.2.2.2) ?_
                      refine XS.icmpNo X4_.here hx rfl (hC e18_76.1) rfl (tlt (hm6 : (57 : Int32) < (own_ch (f (0 : Int32))))).2.2.2 ?_
                      refine XS.iloadN X4_.here hx rfl (hC e18_67.2.2.2) rfl ?_
                      refine XS.bipush X4_.here hx rfl (hC e18_80.1) ?_
                      refine XS.icmpNo X4_.here hx rfl (hC e18_80.2.1) rfl (feq (hm7 : ¬ ((own_ch (f (0 : Int32))) = (46 : Int32)))).1 ?_
                      refine XS.iloadN X4_.here hx rfl (hC e18_85.1) rfl ?_
                      show Steps pP.tables eE below (T4_.setTop (mkF mM 86 ll3 [(.int (own_ch (f (0 : Int32))))])) tT
                      refine XS.bipush X4_.here hx rfl (hC e18_85.2.1) ?_
                      refine XS.icmpNo X4_.here hx rfl (hC e18_85.2.2.1) rfl (feq (hm8 : ¬ ((own_ch (f (0 : Int32))) = (95 : Int32)))).1 ?_
                      refine XS.iloadN X4_.here hx rfl (hC e18_85.2.2.2) rfl ?_
                      refine XS.bipush X4_.here hx rfl (hC e18_92.1) ?_
                      refine XS.icmpYes X4_.here hx rfl (pc0 := 94) (pc' := 103) rfl (hC e18_92.2.1) rfl (teq (hm9 : (own_ch (f (0 : Int32))) = (58 : Int32))).1 (by decide) (by decide) ?_
                      refine XS.iconst X4_.here hx rfl (hC e18_80.2.2.1) ?_
                      refine XS.goto X4_.here hx rfl (pc0 := 104) (pc' := 108) rfl (hC e18_80.2.2.2) (by decide) (by decide) ?_
                      exact kK
                    · by_cases hm10 : (own_ch (f (0 : Int32))) = (45 : Int32)
                      · refine ⟨(1 : Int32), by rw [if_neg hm1, if_pos hm2, if_neg hm3, if_pos hm4, if_neg hm5, if_pos hm6, if_neg hm7, if_neg hm8, if_neg hm9, if_pos hm10], fun tT kK => ?_⟩
                        refine XS.iloadN X4_.here hx rfl (hC e18_39.2.2.1) rfl ?_
                        refine XS.bipush X4_.here hx rfl (hC e18_39.2.2.2) ?_
                        refine XS.icmpNo X4_.here hx rfl (hC e18_46.1) rfl (flt (hm1 : ¬ ((own_ch (f (0 : Int32))) < (65 : Int32)))).1 ?_
                        refine XS.iloadN X4_.here hx rfl (hC e18_49.1) rfl ?_
                        refine XS.bipush X4_.here hx rfl (hC e18_49.2.1) ?_
                        refine XS.icmpNo X4_.here hx rfl (hC e18_49.2.2.1) rfl (tlt (hm2 : (90 : Int32) < (own_ch (f (0 : Int32))))).2.2.2 ?_
                        refine XS.iloadN X4_.here hx rfl (hC e18_46.2.1) rfl ?_
                        refine XS.bipush X4_.here hx rfl (hC e18_46.2.2.1) ?_
                        refine XS.icmpNo X4_.here hx rfl (hC e18_46.2.2.2) rfl (flt (hm3 : ¬ ((own_ch (f (0 : Int32))) < (97 : Int32)))).1 ?_
                        refine XS.iloadN X4_.here hx rfl (hC e18_76.2.1) rfl ?_
                        refine XS.bipush X4_.here hx rfl (hC e18_76.2.2.1) ?_
                        refine XS.icmpNo X4_.here hx rfl (hC e18_76.2.2.2) rfl (tlt (hm4 : (122 : Int32) < (own_ch (f (0 : Int32))))).2.2.2 ?_
                        refine XS.iloadN X4_.here hx rfl (hC e18_67.1) rfl ?_
                        refine XS.bipush X4_.here hx rfl (hC e18_67.2.1) ?_
                        refine XS.icmpNo X4_.here hx rfl (hC e18_67.2.2.1) rfl (flt (hm5 : ¬ ((own_ch (f (0 : Int32))) < (48 : Int32)))).1 ?_
                        refine XS.iloadN X4_.here hx rfl (hC e18_100.2.2.1) rfl ?_
                        refine XS.bipush X4_.here hx rfl (hC e18_100.2.2.2) ?_
                        refine XS.icmpNo X4_.here hx rfl (hC e18_76.1) rfl (tlt (hm6 : (57 : Int32) < (own_ch (f (0 : Int32))))).2.2.2 ?_
                        refine XS.iloadN X4_.here hx rfl (hC e18_67.2.2.2) rfl ?_
                        refine XS.bipush X4_.here hx rfl (hC e18_80.1) ?_
                        refine XS.icmpNo X4_.here hx rfl (hC e18_80.2.1) rfl (feq (hm7 : ¬ ((own_ch (f (0 : Int32))) = (46 : Int32)))).1 ?_
                        refine XS.iloadN X4_.here hx rfl (hC e18_85.1) rfl ?_
                        show Steps pP.tables eE below (T4_.setTop (mkF mM 86 ll3 [(.int (own_ch (f (0 : Int32))))])) tT
                        refine XS.bipush X4_.here hx rfl (hC e18_85.2.1) ?_
                        refine XS.icmpNo X4_.here hx rfl (hC e18_85.2.2.1) rfl (feq (hm8 : ¬ ((own_ch (f (0 : Int32))) = (95 : Int32)))).1 ?_
                        refine XS.iloadN X4_.here hx rfl (hC e18_85.2.2.2) rfl ?_
                        refine XS.bipush X4_.here hx rfl (hC e18_92.1) ?_
                        refine XS.icmpNo X4_.here hx rfl (hC e18_92.2.1) rfl (feq (hm9 : ¬ ((own_ch (f (0 : Int32))) = (58 : Int32)))).1 ?_
                        refine XS.iloadN X4_.here hx rfl (hC e18_92.2.2.1) rfl ?_
                        refine XS.bipush X4_.here hx rfl (hC e18_92.2.2.2) ?_
                        refine XS.icmpNo X4_.here hx rfl (hC e18_100.1) rfl (teq (hm10 : (own_ch (f (0 : Int32))) = (45 : Int32))).2 ?_
                        refine XS.iconst X4_.here hx rfl (hC e18_80.2.2.1) ?_
                        refine XS.goto X4_.here hx rfl (pc0 := 104) (pc' := 108) rfl (hC e18_80.2.2.2) (by decide) (by decide) ?_
                        exact kK
                      · refine ⟨(0 : Int32), by rw [if_neg hm1, if_pos hm2, if_neg hm3, if_pos hm4, if_neg hm5, if_pos hm6, if_neg hm7, if_neg hm8, if_neg hm9, if_neg hm10], fun tT kK => ?_⟩
                        refine XS.iloadN X4_.here hx rfl (hC e18_39.2.2.1) rfl ?_
                        refine XS.bipush X4_.here hx rfl (hC e18_39.2.2.2) ?_
                        refine XS.icmpNo X4_.here hx rfl (hC e18_46.1) rfl (flt (hm1 : ¬ ((own_ch (f (0 : Int32))) < (65 : Int32)))).1 ?_
                        refine XS.iloadN X4_.here hx rfl (hC e18_49.1) rfl ?_
                        refine XS.bipush X4_.here hx rfl (hC e18_49.2.1) ?_
                        refine XS.icmpNo X4_.here hx rfl (hC e18_49.2.2.1) rfl (tlt (hm2 : (90 : Int32) < (own_ch (f (0 : Int32))))).2.2.2 ?_
                        refine XS.iloadN X4_.here hx rfl (hC e18_46.2.1) rfl ?_
                        refine XS.bipush X4_.here hx rfl (hC e18_46.2.2.1) ?_
                        refine XS.icmpNo X4_.here hx rfl (hC e18_46.2.2.2) rfl (flt (hm3 : ¬ ((own_ch (f (0 : Int32))) < (97 : Int32)))).1 ?_
                        refine XS.iloadN X4_.here hx rfl (hC e18_76.2.1) rfl ?_
                        refine XS.bipush X4_.here hx rfl (hC e18_76.2.2.1) ?_
                        refine XS.icmpNo X4_.here hx rfl (hC e18_76.2.2.2) rfl (tlt (hm4 : (122 : Int32) < (own_ch (f (0 : Int32))))).2.2.2 ?_
                        refine XS.iloadN X4_.here hx rfl (hC e18_67.1) rfl ?_
                        refine XS.bipush X4_.here hx rfl (hC e18_67.2.1) ?_
                        refine XS.icmpNo X4_.here hx rfl (hC e18_67.2.2.1) rfl (flt (hm5 : ¬ ((own_ch (f (0 : Int32))) < (48 : Int32)))).1 ?_
                        refine XS.iloadN X4_.here hx rfl (hC e18_100.2.2.1) rfl ?_
                        refine XS.bipush X4_.here hx rfl (hC e18_100.2.2.2) ?_
                        refine XS.icmpNo X4_.here hx rfl (hC e18_76.1) rfl (tlt (hm6 : (57 : Int32) < (own_ch (f (0 : Int32))))).2.2.2 ?_
                        refine XS.iloadN X4_.here hx rfl (hC e18_67.2.2.2) rfl ?_
                        refine XS.bipush X4_.here hx rfl (hC e18_80.1) ?_
                        refine XS.icmpNo X4_.here hx rfl (hC e18_80.2.1) rfl (feq (hm7 : ¬ ((own_ch (f (0 : Int32))) = (46 : Int32)))).1 ?_
                        refine XS.iloadN X4_.here hx rfl (hC e18_85.1) rfl ?_
                        show Steps pP.tables eE below (T4_.setTop (mkF mM 86 ll3 [(.int (own_ch (f (0 : Int32))))])) tT
                        refine XS.bipush X4_.here hx rfl (hC e18_85.2.1) ?_
                        refine XS.icmpNo X4_.here hx rfl (hC e18_85.2.2.1) rfl (feq (hm8 : ¬ ((own_ch (f (0 : Int32))) = (95 : Int32)))).1 ?_
                        refine XS.iloadN X4_.here hx rfl (hC e18_85.2.2.2) rfl ?_
                        refine XS.bipush X4_.here hx rfl (hC e18_92.1) ?_
                        refine XS.icmpNo X4_.here hx rfl (hC e18_92.2.1) rfl (feq (hm9 : ¬ ((own_ch (f (0 : Int32))) = (58 : Int32)))).1 ?_
                        refine XS.iloadN X4_.here hx rfl (hC e18_92.2.2.1) rfl ?_
                        refine XS.bipush X4_.here hx rfl (hC e18_92.2.2.2) ?_
                        refine XS.icmpYes X4_.here hx rfl (pc0 := 100) (pc' := 107) rfl (hC e18_100.1) rfl (feq (hm10 : ¬ ((own_ch (f (0 : Int32))) = (45 : Int32)))).2 (by decide) (by decide) ?_
                        refine XS.iconst X4_.here hx rfl (hC e18_100.2.1) ?_
                        exact kK
              · refine ⟨(1 : Int32), by rw [if_neg hm1, if_pos hm2, if_neg hm3, if_pos hm4, if_neg hm5, if_neg hm6], fun tT kK => ?_⟩
                refine XS.iloadN X4_.here hx rfl (hC e18_39.2.2.1) rfl ?_
                refine XS.bipush X4_.here hx rfl (hC e18_39.2.2.2) ?_
                refine XS.icmpNo X4_.here hx rfl (hC e18_46.1) rfl (flt (hm1 : ¬ ((own_ch (f (0 : Int32))) < (65 : Int32)))).1 ?_
                refine XS.iloadN X4_.here hx rfl (hC e18_49.1) rfl ?_
                refine XS.bipush X4_.here hx rfl (hC e18_49.2.1) ?_
                refine XS.icmpNo X4_.here hx rfl (hC e18_49.2.2.1) rfl (tlt (hm2 : (90 : Int32) < (own_ch (f (0 : Int32))))).2.2.2 ?_
                refine XS.iloadN X4_.here hx rfl (hC e18_46.2.1) rfl ?_
                refine XS.bipush X4_.here hx rfl (hC e18_46.2.2.1) ?_
                refine XS.icmpNo X4_.here hx rfl (hC e18_46.2.2.2) rfl (flt (hm3 : ¬ ((own_ch (f (0 : Int32))) < (97 : Int32)))).1 ?_
                refine XS.iloadN X4_.here hx rfl (hC e18_76.2.1) rfl ?_
                refine XS.bipush X4_.here hx rfl (hC e18_76.2.2.1) ?_
                refine XS.icmpNo X4_.here hx rfl (hC e18_76.2.2.2) rfl (tlt (hm4 : (122 : Int32) < (own_ch (f (0 : Int32))))).2.2.2 ?_
                refine XS.iloadN X4_.here hx rfl (hC e18_67.1) rfl ?_
                refine XS.bipush X4_.here hx rfl (hC e18_67.2.1) ?_
                refine XS.icmpNo X4_.here hx rfl (hC e18_67.2.2.1) rfl (flt (hm5 : ¬ ((own_ch (f (0 : Int32))) < (48 : Int32)))).1 ?_
                refine XS.iloadN X4_.here hx rfl (hC e18_100.2.2.1) rfl ?_
                refine XS.bipush X4_.here hx rfl (hC e18_100.2.2.2) ?_
                refine XS.icmpYes X4_.here hx rfl (pc0 := 76) (pc' := 103) rfl (hC e18_76.1) rfl (flt (hm6 : ¬ ((57 : Int32) < (own_ch (f (0 : Int32)))))).2.2.2 (by decide) (by decide) ?_
                refine XS.iconst X4_.here hx rfl (hC e18_80.2.2.1) ?_
                refine XS.goto X4_.here hx rfl (pc0 := 104) (pc' := 108) rfl (hC e18_80.2.2.2) (by decide) (by decide) ?_
                exact kK
          · refine ⟨(1 : Int32), by rw [if_neg hm1, if_pos hm2, if_neg hm3, if_neg hm4], fun tT kK => ?_⟩
            refine XS.iloadN X4_.here hx rfl (hC e18_39.2.2.1) rfl ?_
            refine XS.bipush X4_.here hx rfl (hC e18_39.2.2.2) ?_
            refine XS.icmpNo X4_.here hx rfl (hC e18_46.1) rfl (flt (hm1 : ¬ ((own_ch (f (0 : Int32))) < (65 : Int32)))).1 ?_
            refine XS.iloadN X4_.here hx rfl (hC e18_49.1) rfl ?_
            refine XS.bipush X4_.here hx rfl (hC e18_49.2.1) ?_
            refine XS.icmpNo X4_.here hx rfl (hC e18_49.2.2.1) rfl (tlt (hm2 : (90 : Int32) < (own_ch (f (0 : Int32))))).2.2.2 ?_
            refine XS.iloadN X4_.here hx rfl (hC e18_46.2.1) rfl ?_
            refine XS.bipush X4_.here hx rfl (hC e18_46.2.2.1) ?_
            refine XS.icmpNo X4_.here hx rfl (hC e18_46.2.2.2) rfl (flt (hm3 : ¬ ((own_ch (f (0 : Int32))) < (97 : Int32)))).1 ?_
            refine XS.iloadN X4_.here hx rfl (hC e18_76.2.1) rfl ?_
            refine XS.bipush X4_.here hx rfl (hC e18_76.2.2.1) ?_
            refine XS.icmpYes X4_.here hx rfl (pc0 := 64) (pc' := 103) rfl (hC e18_76.2.2.2) rfl (flt (hm4 : ¬ ((122 : Int32) < (own_ch (f (0 : Int32)))))).2.2.2 (by decide) (by decide) ?_
            refine XS.iconst X4_.here hx rfl (hC e18_80.2.2.1) ?_
            refine XS.goto X4_.here hx rfl (pc0 := 104) (pc' := 108) rfl (hC e18_80.2.2.2) (by decide) (by decide) ?_
            exact kK
      · refine ⟨(1 : Int32), by rw [if_neg hm1, if_neg hm2], fun tT kK => ?_⟩
        refine XS.iloadN X4_.here hx rfl (hC e18_39.2.2.1) rfl ?_
        refine XS.bipush X4_.here hx rfl (hC e18_39.2.2.2) ?_
        refine XS.icmpNo X4_.here hx rfl (hC e18_46.1) rfl (flt (hm1 : ¬ ((own_ch (f (0 : Int32))) < (65 : Int32)))).1 ?_
        refine XS.iloadN X4_.here hx rfl (hC e18_49.1) rfl ?_
        refine XS.bipush X4_.here hx rfl (hC e18_49.2.1) ?_
        refine XS.icmpYes X4_.here hx rfl (pc0 := 52) (pc' := 103) rfl (hC e18_49.2.2.1) rfl (flt (hm2 : ¬ ((90 : Int32) < (own_ch (f (0 : Int32)))))).2.2.2 (by decide) (by decide) ?_
        refine XS.iconst X4_.here hx rfl (hC e18_80.2.2.1) ?_
        refine XS.goto X4_.here hx rfl (pc0 := 104) (pc' := 108) rfl (hC e18_80.2.2.2) (by decide) (by decide) ?_
        exact kK
  refine own_fin st5_ ?_
  rcases (hv0.trans ok0 : v0 = (1 : Int32)) with rfl
  · let ll4 : Array Slot := #[vR a, vI 1, vI 1, vI (own_ch (f (0 : Int32)))]
    refine jg T4_ mM 31 ll4 [(.ref a), (.int (1 : Int32))] (fun tT kK => ?_) ?_
    · refine XS.istoreN X4_.here hx rfl (hC e18_49.2.2.2) rfl (l' := ll3) rfl ?_
      refine XS.iinc X4_.here hx rfl (hC e18_109.1) rfl (l' := ll4) rfl ?_
      refine XS.goto X4_.here hx rfl (pc0 := 112) (pc' := 25) rfl (hC e18_109.2.1) (by decide) (by decide) ?_
      refine XS.iloadN X4_.here hx rfl (hC e18_25.1) rfl ?_
      refine XS.ifNo X4_.here hx rfl (hC e18_25.2.1) rfl ((if0 _ _).trans (feq ((by decide) : ¬ ((1 : Int32) = (0 : Int32)))).1) ?_
      refine XS.iloadN X4_.here hx rfl (hC e18_25.2.2.1) rfl ?_
      refine XS.aloadN X4_.here hx rfl (hC e18_25.2.2.2) rfl rfl ?_
      exact kK
    refine jv X4_ hx hZ (y := jy1) hown (jk hw 87 rfl) (jk hw 88 rfl) (jk hw 90 rfl) (jk hw 89 rfl) (jk hw 91 rfl) (jk hw 11 rfl) (rm_slen lL Z a0 hw [] a t (1 : Int32) f cs h0 n0 (Nat.le_trans Z0 K0.1) Oo Scs ncs E Fv Fc Tt) E p4__0 own_pd12 [] [(.int (1 : Int32))] (hC e18_31.1) rfl rfl (by rw [hml]; rfl) (by decide) 1 (Nat.le_of_eq rfl) (by decide) (by decide) (by decide : 0 + 0 ≤ _) (by decide : 0 + 0 ≤ _) fun vv6_ T6_ L6_ X6_ hQ6_ => ?_
    obtain ⟨rfl, N6_q, p6__0⟩ := hQ6_
    have N6_ := Fr.app N4_ N6_q
    refine jg T6_ mM 116 ll4 [(.int (1 : Int32))] (fun tT kK => ?_) ?_
    · refine XS.icmpYes X6_.here hx rfl (pc0 := 34) (pc' := 115) rfl (hC e18_31.2.1) rfl (flt ((by decide) : ¬ ((1 : Int32) < (1 : Int32)))).2.1 (by decide) (by decide) ?_
      refine XS.iloadN X6_.here hx rfl (hC e18_109.2.2.1) rfl ?_
      exact kK
    exact own_rL X6_ hx hlk hre (by simp) (hC e18_109.2.2.2) (w := (.int (1 : Int32))) rfl p6__0 (by decide) (by decide) ⟨rfl, N6_, rfl⟩
theorem own_ef_rm_isid2 (mM : MethodId) (x0 : Addr) : entryFrame mM #[(.ref x0)] 4 = mkF mM 0 #[.val (.ref x0), .unset, .unset, .unset] [] := by first | (simp [entryFrame, mkF, argsToLocals, Value.category]; done) | rfl
def Q_rm_isid2 (Z : State) (a : Addr) (t : Addr) (f : Int32 → Int32) (cs : Int32) (fv : Value) (h0 : Heap) (n0 : Nat) (vV : Option Value) (hH : Heap) (lA : List Loc) : Prop := vV = some (.int (1 : Int32)) ∧ Fr n0 lA ∧ (hH = h0)
set_option maxRecDepth 65536 in
set_option maxHeartbeats 40000000 in
theorem rm_isid2 (lL : Launch) (Z : State) (a0 : Array Value) (hw : own_H a0 Z) (ws : List Jvm.Cond) (a : Addr) (t : Addr) (f : Int32 → Int32) (cs : Int32) (fv : Value) (h0 : Heap) (n0 : Nat) (Z0 : n0 ≤ h0.size) (Oo : Old Z n0 h0) (Scs : Sta Z Z.heap "java/lang/String" "COMPACT_STRINGS" "Z" (.int cs)) (ncs : ¬ (cs = (0 : Int32))) (Sfv : Sta Z Z.heap "jdk/internal/util/Preconditions" "SIOOBE_FORMATTER" "Ljava/util/function/BiFunction;" fv) (rfv : fv.isRef = true) (E : jE0 Z h0 a) (Fv : jF1 Z h0 a (.ref t)) (Fc : jF0 Z h0 a (.int (0 : Int32))) (Tt : own_T Z h0 t .byte (2 : Int32) f) (ok0 : own_okc (own_ch (f (0 : Int32))) = (1 : Int32)) (ok1 : own_okc (own_ch (f (1 : Int32))) = (1 : Int32)) :
    own_Met lL jy28 (Jvm.Cond.code jy28 prog_14_method_5_code 4 (some .boolean) :: ws) jr16 #[(.ref a)] Z h0 (Q_rm_isid2 Z a t f cs fv h0 n0) := by
  refine own_begin (plainFor_of_name own_pn_com_example_waldrapp_waldrapp_Intent) (fun mM => own_ef_rm_isid2 mM a) fun pP eE sS mM below meth cC s₁ hx hby hml hZ hown hnm hre hlk X0 e0 => ?_
  have hC := @Jvm.hb _ _ hby
  have N0 := Fr.nil n0
  have K0 := Keep.refl h0 ([] : List Addr)
  refine jg s₁ mM 1 #[vR a, vU, vU, vU] [(.ref a)] (fun tT kK => ?_) ?_
  · refine XS.aloadN X0.here hx rfl (hC e18_0.1) rfl rfl ?_
    exact kK
  refine jv X0 hx hZ (y := jy27) hown (jk hw 82 rfl) (jk hw 83 rfl) (jk hw 85 rfl) (jk hw 84 rfl) (jk hw 86 rfl) (jk hw 11 rfl) (rm_ie lL Z a0 hw [] a t (2 : Int32) f h0 n0 (Nat.le_trans Z0 K0.1) Fv Tt (by decide)) E e0 own_pd3 [] [] (hC e18_0.2.1) rfl rfl (by rw [hml]; rfl) (by decide) 0 (Nat.le_of_eq rfl) (by decide) (by decide) (by decide : 0 + 0 ≤ _) (by decide : 0 + 0 ≤ _) fun vv1_ T1_ L1_ X1_ hQ1_ => ?_
  obtain ⟨rfl, N1_q, p1__0⟩ := hQ1_
  have N1_ := Fr.app N0 N1_q
  refine jg T1_ mM 8 #[vR a, vU, vU, vU] [(.ref a)] (fun tT kK => ?_) ?_
  · refine XS.ifNo X1_.here hx rfl (hC e18_0.2.2.1) rfl ((if0 _ _).trans (teq ((by decide) : (0 : Int32) = (0 : Int32))).2) ?_
    refine XS.aloadN X1_.here hx rfl (hC e18_0.2.2.2) rfl rfl ?_
    exact kK
  refine jv X1_ hx hZ (y := jy1) hown (jk hw 87 rfl) (jk hw 88 rfl) (jk hw 90 rfl) (jk hw 89 rfl) (jk hw 91 rfl) (jk hw 11 rfl) (rm_slen lL Z a0 hw [] a t (2 : Int32) f cs h0 n0 (Nat.le_trans Z0 K0.1) Oo Scs ncs E Fv Fc Tt) E p1__0 own_pd12 [] [] (hC e18_8.1) rfl rfl (by rw [hml]; rfl) (by decide) 0 (Nat.le_of_eq rfl) (by decide) (by decide) (by decide : 0 + 0 ≤ _) (by decide : 0 + 0 ≤ _) fun vv2_ T2_ L2_ X2_ hQ2_ => ?_
  obtain ⟨rfl, N2_q, p2__0⟩ := hQ2_
  have N2_ := Fr.app N1_ N2_q
  let ll1 : Array Slot := #[vR a, vI 1, vI 0, vU]
  refine jg T2_ mM 31 ll1 [(.ref a), (.int (0 : Int32))] (fun tT kK => ?_) ?_
  · refine XS.sipush X2_.here hx rfl (hC e18_8.2.1) ?_
    refine XS.icmpNo X2_.here hx rfl (hC e18_8.2.2.1) rfl (flt ((by decide) : ¬ ((128 : Int32) < (2 : Int32)))).2.2.1 ?_
    refine XS.iconst X2_.here hx rfl (hC e18_8.2.2.2) ?_
    refine XS.goto X2_.here hx rfl (pc0 := 18) (pc' := 22) rfl (hC e18_18.1) (by decide) (by decide) ?_
    let ll2 : Array Slot := #[vR a, vI 1, vU, vU]
    refine XS.istoreN X2_.here hx rfl (hC e18_18.2.1) rfl (l' := ll2) rfl ?_
    refine XS.iconst X2_.here hx rfl (hC e18_18.2.2.1) ?_
    refine XS.istoreN X2_.here hx rfl (hC e18_18.2.2.2) rfl (l' := ll1) rfl ?_
    refine XS.iloadN X2_.here hx rfl (hC e18_25.1) rfl ?_
    refine XS.ifNo X2_.here hx rfl (hC e18_25.2.1) rfl ((if0 _ _).trans (feq ((by decide) : ¬ ((1 : Int32) = (0 : Int32)))).1) ?_
    refine XS.iloadN X2_.here hx rfl (hC e18_25.2.2.1) rfl ?_
    refine XS.aloadN X2_.here hx rfl (hC e18_25.2.2.2) rfl rfl ?_
    exact kK
  refine jv X2_ hx hZ (y := jy1) hown (jk hw 87 rfl) (jk hw 88 rfl) (jk hw 90 rfl) (jk hw 89 rfl) (jk hw 91 rfl) (jk hw 11 rfl) (rm_slen lL Z a0 hw [] a t (2 : Int32) f cs h0 n0 (Nat.le_trans Z0 K0.1) Oo Scs ncs E Fv Fc Tt) E p2__0 own_pd12 [] [(.int (0 : Int32))] (hC e18_31.1) rfl rfl (by rw [hml]; rfl) (by decide) 1 (Nat.le_of_eq rfl) (by decide) (by decide) (by decide : 0 + 0 ≤ _) (by decide : 0 + 0 ≤ _) fun vv3_ T3_ L3_ X3_ hQ3_ => ?_
  obtain ⟨rfl, N3_q, p3__0⟩ := hQ3_
  have N3_ := Fr.app N2_ N3_q
  refine jg T3_ mM 39 ll1 [(.int (0 : Int32)), (.ref a)] (fun tT kK => ?_) ?_
  · refine XS.icmpNo X3_.here hx rfl (hC e18_31.2.1) rfl (tlt ((by decide) : (0 : Int32) < (2 : Int32))).2.1 ?_
    refine XS.aloadN X3_.here hx rfl (hC e18_31.2.2.1) rfl rfl ?_
    refine XS.iloadN X3_.here hx rfl (hC e18_31.2.2.2) rfl ?_
    exact kK
  refine jv X3_ hx hZ (y := jy6) hown (jk hw 97 rfl) (jk hw 19 rfl) (jk hw 21 rfl) (jk hw 20 rfl) (jk hw 22 rfl) (jk hw 11 rfl) (rm_char lL Z a0 hw [] a (0 : Int32) t (2 : Int32) f cs fv h0 n0 (Nat.le_trans Z0 K0.1) Oo Scs ncs Sfv rfv E Fv Fc Tt (by decide) (by decide)) E p3__0 own_pd14 [(.int (0 : Int32))] [] (hC e18_39.1) rfl rfl (by rw [hml]; rfl) (by decide) 0 (Nat.le_of_eq rfl) (by decide) (by decide) (by decide : 0 + 0 ≤ _) (by decide : 0 + 0 ≤ _) fun vv4_ T4_ L4_ X4_ hQ4_ => ?_
  obtain ⟨rfl, N4_q, p4__0⟩ := hQ4_
  have N4_ := Fr.app N3_ N4_q
  let ll3 : Array Slot := #[vR a, vI 1, vI 0, vI (own_ch (f (0 : Int32)))]
  refine jg T4_ mM 43 ll3 [] (fun tT kK => ?_) ?_
  · refine XS.istoreN X4_.here hx rfl (hC e18_39.2.1) rfl (l' := ll3) rfl ?_
    exact kK
  obtain ⟨v0, hv0, st5_⟩ : ∃ v0 : Int32, (v0 = (if (own_ch (f (0 : Int32))) < (65 : Int32) then (if (own_ch (f (0 : Int32))) < (97 : Int32) then (if (own_ch (f (0 : Int32))) < (48 : Int32) then (if (own_ch (f (0 : Int32))) = (46 : Int32) then (1 : Int32) else (if (own_ch (f (0 : Int32))) = (95 : Int32) then (1 : Int32) else (if (own_ch (f (0 : Int32))) = (58 : Int32) then (1 : Int32) else (if (own_ch (f (0 : Int32))) = (45 : Int32) then (1 : Int32) else (0 : Int32))))) else (if (57 : Int32) < (own_ch (f (0 : Int32))) then (if (own_ch (f (0 : Int32))) = (46 : Int32) then (1 : Int32) else (if (own_ch (f (0 : Int32))) = (95 : Int32) then (1 : Int32) else (if (own_ch (f (0 : Int32))) = (58 : Int32) then (1 : Int32) else (if (own_ch (f (0 : Int32))) = (45 : Int32) then (1 : Int32) else (0 : Int32))))) else (1 : Int32))) else (if (122 : Int32) < (own_ch (f (0 : Int32))) then (if (own_ch (f (0 : Int32))) < (48 : Int32) then (if (own_ch (f (0 : Int32))) = (46 : Int32) then (1 : Int32) else (if (own_ch (f (0 : Int32))) = (95 : Int32) then (1 : Int32) else (if (own_ch (f (0 : Int32))) = (58 : Int32) then (1 : Int32) else (if (own_ch (f (0 : Int32))) = (45 : Int32) then (1 : Int32) else (0 : Int32))))) else (if (57 : Int32) < (own_ch (f (0 : Int32))) then (if (own_ch (f (0 : Int32))) = (46 : Int32) then (1 : Int32) else (if (own_ch (f (0 : Int32))) = (95 : Int32) then (1 : Int32) else (if (own_ch (f (0 : Int32))) = (58 : Int32) then (1 : Int32) else (if (own_ch (f (0 : Int32))) = (45 : Int32) then (1 : Int32) else (0 : Int32))))) else (1 : Int32))) else (1 : Int32))) else (if (90 : Int32) < (own_ch (f (0 : Int32))) then (if (own_ch (f (0 : Int32))) < (97 : Int32) then (if (own_ch (f (0 : Int32))) < (48 : Int32) then (if (own_ch (f (0 : Int32))) = (46 : Int32) then (1 : Int32) else (if (own_ch (f (0 : Int32))) = (95 : Int32) then (1 : Int32) else (if (own_ch (f (0 : Int32))) = (58 : Int32) then (1 : Int32) else (if (own_ch (f (0 : Int32))) = (45 : Int32) then (1 : Int32) else (0 : Int32))))) else (if (57 : Int32) < (own_ch (f (0 : Int32))) then (if (own_ch (f (0 : Int32))) = (46 : Int32) then (1 : Int32) else (if (own_ch (f (0 : Int32))) = (95 : Int32) then (1 : Int32) else (if (own_ch (f (0 : Int32))) = (58 : Int32) then (1 : Int32) else (if (own_ch (f (0 : Int32))) = (45 : Int32) then (1 : Int32) else (0 : Int32))))) else (1 : Int32))) else (if (122 : Int32) < (own_ch (f (0 : Int32))) then (if (own_ch (f (0 : Int32))) < (48 : Int32) then (if (own_ch (f (0 : Int32))) = (46 : Int32) then (1 : Int32) else (if (own_ch (f (0 : Int32))) = (95 : Int32) then (1 : Int32) else (if (own_ch (f (0 : Int32))) = (58 : Int32) then (1 : Int32) else (if (own_ch (f (0 : Int32))) = (45 : Int32) then (1 : Int32) else (0 : Int32))))) else (if (57 : Int32) < (own_ch (f (0 : Int32))) then (if (own_ch (f (0 : Int32))) = (46 : Int32) then (1 : Int32) else (if (own_ch (f (0 : Int32))) = (95 : Int32) then (1 : Int32) else (if (own_ch (f (0 : Int32))) = (58 : Int32) then (1 : Int32) else (if (own_ch (f (0 : Int32))) = (45 : Int32) then (1 : Int32) else (0 : Int32))))) else (1 : Int32))) else (1 : Int32))) else (1 : Int32)))) ∧ ∀ tT, Steps pP.tables eE below (T4_.setTop (mkF mM 108 #[.val (.ref a), .val (.int (1 : Int32)), .val (.int (0 : Int32)), .val (.int (own_ch (f (0 : Int32))))] [(.int v0)])) tT → Steps pP.tables eE below (T4_.setTop (mkF mM 43 #[.val (.ref a), .val (.int (1 : Int32)), .val (.int (0 : Int32)), .val (.int (own_ch (f (0 : Int32))))] [])) tT := by
    by_cases hm1 : (own_ch (f (0 : Int32))) < (65 : Int32)
    · by_cases hm2 : (own_ch (f (0 : Int32))) < (97 : Int32)
      · by_cases hm3 : (own_ch (f (0 : Int32))) < (48 : Int32)
        · by_cases hm4 : (own_ch (f (0 : Int32))) = (46 : Int32)
          · refine ⟨(1 : Int32), by rw [if_pos hm1, if_pos hm2, if_pos hm3, if_pos hm4], fun tT kK => ?_⟩
            refine XS.iloadN X4_.here hx rfl (hC e18_39.2.2.1) rfl ?_
            refine XS.bipush X4_.here hx rfl (hC e18_39.2.2.2) ?_
            refine XS.icmpYes X4_.here hx rfl (pc0 := 46) (pc' := 55) rfl (hC e18_46.1) rfl (tlt (hm1 : (own_ch (f (0 : Int32))) < (65 : Int32))).1 (by decide) (by decide) ?_
            refine XS.iloadN X4_.here hx rfl (hC e18_46.2.1) rfl ?_
            refine XS.bipush X4_.here hx rfl (hC e18_46.2.2.1) ?_
            refine XS.icmpYes X4_.here hx rfl (pc0 := 58) (pc' := 67) rfl (hC e18_46.2.2.2) rfl (tlt (hm2 : (own_ch (f (0 : Int32))) < (97 : Int32))).1 (by decide) (by decide) ?_
            refine XS.iloadN X4_.here hx rfl (hC e18_67.1) rfl ?_
            refine XS.bipush X4_.here hx rfl (hC e18_67.2.1) ?_
            refine XS.icmpYes X4_.here hx rfl (pc0 := 70) (pc' := 79) rfl (hC e18_67.2.2.1) rfl (tlt (hm3 : (own_ch (f (0 : Int32))) < (48 : Int32))).1 (by decide) (by decide) ?_
            refine XS.iloadN X4_.here hx rfl (hC e18_67.2.2.2) rfl ?_
            refine XS.bipush X4_.here hx rfl (hC e18_80.1) ?_
            refine XS.icmpYes X4_.here hx rfl (pc0 := 82) (pc' := 103) rfl (hC e18_80.2.1) rfl (teq (hm4 : (own_ch (f (0 : Int32))) = (46 : Int32))).1 (by decide) (by decide) ?_
            refine XS.iconst X4_.here hx rfl (hC e18_80.2.2.1) ?_
            refine XS.goto X4_.here hx rfl (pc0 := 104) (pc' := 108) rfl (hC e18_80.2.2.2) (by decide) (by decide) ?_
            exact kK
          · by_cases hm5 : (own_ch (f (0 : Int32))) = (95 : Int32)
            · refine ⟨(1 : Int32), by rw [if_pos hm1, if_pos hm2, if_pos hm3, if_neg hm4, if_pos hm5], fun tT kK => ?_⟩
              refine XS.iloadN X4_.here hx rfl (hC e18_39.2.2.1) rfl ?_
              refine XS.bipush X4_.here hx rfl (hC e18_39.2.2.2) ?_
              refine XS.icmpYes X4_.here hx rfl (pc0 := 46) (pc' := 55) rfl (hC e18_46.1) rfl (tlt (hm1 : (own_ch (f (0 : Int32))) < (65 : Int32))).1 (by decide) (by decide) ?_
              refine XS.iloadN X4_.here hx rfl (hC e18_46.2.1) rfl ?_
              refine XS.bipush X4_.here hx rfl (hC e18_46.2.2.1) ?_
              refine XS.icmpYes X4_.here hx rfl (pc0 := 58) (pc' := 67) rfl (hC e18_46.2.2.2) rfl (tlt (hm2 : (own_ch (f (0 : Int32))) < (97 : Int32))).1 (by decide) (by decide) ?_
              refine XS.iloadN X4_.here hx rfl (hC e18_67.1) rfl ?_
              refine XS.bipush X4_.here hx rfl (hC e18_67.2.1) ?_
              refine XS.icmpYes X4_.here hx rfl (pc0 := 70) (pc' := 79) rfl (hC e18_67.2.2.1) rfl (tlt (hm3 : (own_ch (f (0 : Int32))) < (48 : Int32))).1 (by decide) (by decide) ?_
              refine XS.iloadN X4_.here hx rfl (hC e18_67.2.2.2) rfl ?_
              refine XS.bipush X4_.here hx rfl (hC e18_80.1) ?_
              refine XS.icmpNo X4_.here hx rfl (hC e18_80.2.1) rfl (feq (hm4 : ¬ ((own_ch (f (0 : Int32))) = (46 : Int32)))).1 ?_
              refine XS.iloadN X4_.here hx rfl (hC e18_85.1) rfl ?_
              refine XS.bipush X4_.here hx rfl (hC e18_85.2.1) ?_
              refine XS.icmpYes X4_.here hx rfl (pc0 := 88) (pc' := 103) rfl (hC e18_85.2.2.1) rfl (teq (hm5 : (own_ch (f (0 : Int32))) = (95 : Int32))).1 (by decide) (by decide) ?_
              refine XS.iconst X4_.here hx rfl (hC e18_80.2.2.1) ?_
              refine XS.goto X4_.here hx rfl (pc0 := 104) (pc' := 108) rfl (hC e18_80.2.2.2) (by decide) (by decide) ?_
              exact kK
            · by_cases hm6 : (own_ch (f (0 : Int32))) = (58 : Int32)
              · refine ⟨(1 : Int32), by rw [if_pos hm1, if_pos hm2, if_pos hm3, if_neg hm4, if_neg hm5, if_pos hm6], fun tT kK => ?_⟩
                refine XS.iloadN X4_.here hx rfl (hC e18_39.2.2.1) rfl ?_
                refine XS.bipush X4_.here hx rfl (hC e18_39.2.2.2) ?_
                refine XS.icmpYes X4_.here hx rfl (pc0 := 46) (pc' := 55) rfl (hC e18_46.1) rfl (tlt (hm1 : (own_ch (f (0 : Int32))) < (65 : Int32))).1 (by decide) (by decide) ?_
                refine XS.iloadN X4_.here hx rfl (hC e18_46.2.1) rfl ?_
                refine XS.bipush X4_.here hx rfl (hC e18_46.2.2.1) ?_
                refine XS.icmpYes X4_.here hx rfl (pc0 := 58) (pc' := 67) rfl (hC e18_46.2.2.2) rfl (tlt (hm2 : (own_ch (f (0 : Int32))) < (97 : Int32))).1 (by decide) (by decide) ?_
                refine XS.iloadN X4_.here hx rfl (hC e18_67.1) rfl ?_
                refine XS.bipush X4_.here hx rfl (hC e18_67.2.1) ?_
                refine XS.icmpYes X4_.here hx rfl (pc0 := 70) (pc' := 79) rfl (hC e18_67.2.2.1) rfl (tlt (hm3 : (own_ch (f (0 : Int32))) < (48 : Int32))).1 (by decide) (by decide) ?_
                refine XS.iloadN X4_.here hx rfl (hC e18_67.2.2.2) rfl ?_
                refine XS.bipush X4_.here hx rfl (hC e18_80.1) ?_
                refine XS.icmpNo X4_.here hx rfl (hC e18_80.2.1) rfl (feq (hm4 : ¬ ((own_ch (f (0 : Int32))) = (46 : Int32)))).1 ?_
                refine XS.iloadN X4_.here hx rfl (hC e18_85.1) rfl ?_
                refine XS.bipush X4_.here hx rfl (hC e18_85.2.1) ?_
                refine XS.icmpNo X4_.here hx rfl (hC e18_85.2.2.1) rfl (feq (hm5 : ¬ ((own_ch (f (0 : Int32))) = (95 : Int32)))).1 ?_
                refine XS.iloadN X4_.here hx rfl (hC e18_85.2.2.2) rfl ?_
                refine XS.bipush X4_.here hx rfl (hC e18_92.1) ?_
                refine XS.icmpYes X4_.here hx rfl (pc0 := 94) (pc' := 103) rfl (hC e18_92.2.1) rfl (teq (hm6 : (own_ch (f (0 : Int32))) = (58 : Int32))).1 (by decide) (by decide) ?_
                refine XS.iconst X4_.here hx rfl (hC e18_80.2.2.1) ?_
                refine XS.goto X4_.here hx rfl (pc0 := 104) (pc' := 108) rfl (hC e18_80.2.2.2) (by decide) (by decide) ?_
                exact kK
              · by_cases hm7 : (own_ch (f (0 : Int32))) = (45 : Int32)
                · refine ⟨(1 : Int32), by rw [if_pos hm1, if_pos hm2, if_pos hm3, if_neg hm4, if_neg hm5, if_neg hm6, if_pos hm7], fun tT kK => ?_⟩
                  refine XS.iloadN X4_.here hx rfl (hC e18_39.2.2.1) rfl ?_
                  refine XS.bipush X4_.here hx rfl (hC e18_39.2.2.2) ?_
                  refine XS.icmpYes X4_.here hx rfl (pc0 := 46) (pc' := 55) rfl (hC e18_46.1) rfl (tlt (hm1 : (own_ch (f (0 : Int32))) < (65 : Int32))).1 (by decide) (by decide) ?_
                  refine XS.iloadN X4_.here hx rfl (hC e18_46.2.1) rfl ?_
                  refine XS.bipush X4_.here hx rfl (hC e18_46.2.2.1) ?_
                  refine XS.icmpYes X4_.here hx rfl (pc0 := 58) (pc' := 67) rfl (hC e18_46.2.2.2) rfl (tlt (hm2 : (own_ch (f (0 : Int32))) < (97 : Int32))).1 (by decide) (by decide) ?_
                  refine XS.iloadN X4_.here hx rfl (hC e18_67.1) rfl ?_
                  refine XS.bipush X4_.here hx rfl (hC e18_67.2.1) ?_
                  refine XS.icmpYes X4_.here hx rfl (pc0 := 70) (pc' := 79) rfl (hC e18_67.2.2.1) rfl (tlt (hm3 : (own_ch (f (0 : Int32))) < (48 : Int32))).1 (by decide) (by decide) ?_
                  refine XS.iloadN X4_.here hx rfl (hC e18_67.2.2.2) rfl ?_
                  refine XS.bipush X4_.here hx rfl (hC e18_80.1) ?_
                  refine XS.icmpNo X4_.here hx rfl (hC e18_80.2.1) rfl (feq (hm4 : ¬ ((own_ch (f (0 : Int32))) = (46 : Int32)))).1 ?_
                  refine XS.iloadN X4_.here hx rfl (hC e18_85.1) rfl ?_
                  refine XS.bipush X4_.here hx rfl (hC e18_85.2.1) ?_
                  refine XS.icmpNo X4_.here hx rfl (hC e18_85.2.2.1) rfl (feq (hm5 : ¬ ((own_ch (f (0 : Int32))) = (95 : Int32)))).1 ?_
                  refine XS.iloadN X4_.here hx rfl (hC e18_85.2.2.2) rfl ?_
                  refine XS.bipush X4_.here hx rfl (hC e18_92.1) ?_
                  refine XS.icmpNo X4_.here hx rfl (hC e18_92.2.1) rfl (feq (hm6 : ¬ ((own_ch (f (0 : Int32))) = (58 : Int32)))).1 ?_
                  refine XS.iloadN X4_.here hx rfl (hC e18_92.2.2.1) rfl ?_
                  refine XS.bipush X4_.here hx rfl (hC e18_92.2.2.2) ?_
                  refine XS.icmpNo X4_.here hx rfl (hC e18_100.1) rfl (teq (hm7 : (own_ch (f (0 : Int32))) = (45 : Int32))).2 ?_
                  refine XS.iconst X4_.here hx rfl (hC e18_80.2.2.1) ?_
                  show Steps pP.tables eE below (T4_.setTop (mkF mM 104 ll3 [(.int (1 : Int32))])) tT
                  refine XS.goto X4_.here hx rfl (pc0 := 104) (pc' := 108) rfl (hC e18_80.2.2.2) (by decide) (by decide) ?_
                  exact kK
                · refine ⟨(0 : Int32), by rw [if_pos hm1, if_pos hm2, if_pos hm3, if_neg hm4, if_neg hm5, if_neg hm6, if_neg hm7], fun tT kK => ?_⟩
                  refine XS.iloadN X4_.here hx rfl (hC e18_39.2.2.1) rfl ?_
                  refine XS.bipush X4_.here hx rfl (hC e18_39.2.2.2) ?_
                  refine XS.icmpYes X4_.here hx rfl (pc0 := 46) (pc' := 55) rfl (hC e18_46.1) rfl (tlt (hm1 : (own_ch (f (0 : Int32))) < (65 : Int32))).1 (by decide) (by decide) ?_
                  refine XS.iloadN X4_.here hx rfl (hC e18_46.2.1) rfl ?_
                  refine XS.bipush X4_.here hx rfl (hC e18_46.2.2.1) ?_
                  refine XS.icmpYes X4_.here hx rfl (pc0 := 58) (pc' := 67) rfl (hC e18_46.2.2.2) rfl (tlt (hm2 : (own_ch (f (0 : Int32))) < (97 : Int32))).1 (by decide) (by decide) ?_
                  refine XS.iloadN X4_.here hx rfl (hC e18_67.1) rfl ?_
                  refine XS.bipush X4_.here hx rfl (hC e18_67.2.1) ?_
                  refine XS.icmpYes X4_.here hx rfl (pc0 := 70) (pc' := 79) rfl (hC e18_67.2.2.1) rfl (tlt (hm3 : (own_ch (f (0 : Int32))) < (48 : Int32))).1 (by decide) (by decide) ?_
                  refine XS.iloadN X4_.here hx rfl (hC e18_67.2.2.2) rfl ?_
                  refine XS.bipush X4_.here hx rfl (hC e18_80.1) ?_
                  refine XS.icmpNo X4_.here hx rfl (hC e18_80.2.1) rfl (feq (hm4 : ¬ ((own_ch (f (0 : Int32))) = (46 : Int32)))).1 ?_
                  refine XS.iloadN X4_.here hx rfl (hC e18_85.1) rfl ?_
                  refine XS.bipush X4_.here hx rfl (hC e18_85.2.1) ?_
                  refine XS.icmpNo X4_.here hx rfl (hC e18_85.2.2.1) rfl (feq (hm5 : ¬ ((own_ch (f (0 : Int32))) = (95 : Int32)))).1 ?_
                  refine XS.iloadN X4_.here hx rfl (hC e18_85.2.2.2) rfl ?_
                  refine XS.bipush X4_.here hx rfl (hC e18_92.1) ?_
                  refine XS.icmpNo X4_.here hx rfl (hC e18_92.2.1) rfl (feq (hm6 : ¬ ((own_ch (f (0 : Int32))) = (58 : Int32)))).1 ?_
                  refine XS.iloadN X4_.here hx rfl (hC e18_92.2.2.1) rfl ?_
                  refine XS.bipush X4_.here hx rfl (hC e18_92.2.2.2) ?_
                  refine XS.icmpYes X4_.here hx rfl (pc0 := 100) (pc' := 107) rfl (hC e18_100.1) rfl (feq (hm7 : ¬ ((own_ch (f (0 : Int32))) = (45 : Int32)))).2 (by decide) (by decide) ?_
                  refine XS.iconst X4_.here hx rfl (hC e18_100.2.1) ?_
                  show Steps pP.tables eE below (T4_.setTop (mkF mM 108 ll3 [(.int (0 : Int32))])) tT
                  exact kK
        · by_cases hm4 : (57 : Int32) < (own_ch (f (0 : Int32)))
          · by_cases hm5 : (own_ch (f (0 : Int32))) = (46 : Int32)
            · refine ⟨(1 : Int32), by rw [if_pos hm1, if_pos hm2, if_neg hm3, if_pos hm4, if_pos hm5], fun tT kK => ?_⟩
              refine XS.iloadN X4_.here hx rfl (hC e18_39.2.2.1) rfl ?_
              refine XS.bipush X4_.here hx rfl (hC e18_39.2.2.2) ?_
              refine XS.icmpYes X4_.here hx rfl (pc0 := 46) (pc' := 55) rfl (hC e18_46.1) rfl (tlt (hm1 : (own_ch (f (0 : Int32))) < (65 : Int32))).1 (by decide) (by decide) ?_
              refine XS.iloadN X4_.here hx rfl (hC e18_46.2.1) rfl ?_
              refine XS.bipush X4_.here hx rfl (hC e18_46.2.2.1) ?_
              refine XS.icmpYes X4_.here hx rfl (pc0 := 58) (pc' := 67) rfl (hC e18_46.2.2.2) rfl (tlt (hm2 : (own_ch (f (0 : Int32))) < (97 : Int32))).1 (by decide) (by decide) ?_
              refine XS.iloadN X4_.here hx rfl (hC e18_67.1) rfl ?_
              refine XS.bipush X4_.here hx rfl (hC e18_67.2.1) ?_
              refine XS.icmpNo X4_.here hx rfl (hC e18_67.2.2.1) rfl (flt (hm3 : ¬ ((own_ch (f (0 : Int32))) < (48 : Int32)))).1 ?_
              refine XS.iloadN X4_.here hx rfl (hC e18_100.2.2.1) rfl ?_
              refine XS.bipush X4_.here hx rfl (hC e18_100.2.2.2) ?_
              refine XS.icmpNo X4_.here hx rfl (hC e18_76.1) rfl (tlt (hm4 : (57 : Int32) < (own_ch (f (0 : Int32))))).2.2.2 ?_
              refine XS.iloadN X4_.here hx rfl (hC e18_67.2.2.2) rfl ?_
              refine XS.bipush X4_.here hx rfl (hC e18_80.1) ?_
              refine XS.icmpYes X4_.here hx rfl (pc0 := 82) (pc' := 103) rfl (hC e18_80.2.1) rfl (teq (hm5 : (own_ch (f (0 : Int32))) = (46 : Int32))).1 (by decide) (by decide) ?_
              refine XS.iconst X4_.here hx rfl (hC e18_80.2.2.1) ?_
              refine XS.goto X4_.here hx rfl (pc0 := 104) (pc' := 108) rfl (hC e18_80.2.2.2) (by decide) (by decide) ?_
              exact kK
            · by_cases hm6 : (own_ch (f (0 : Int32))) = (95 : Int32)
              · refine ⟨(1 : Int32), by rw [if_pos hm1, if_pos hm2, if_neg hm3, if_pos hm4, if_neg hm5, if_pos hm6], fun tT kK => ?_⟩
                refine XS.iloadN X4_.here hx rfl (hC e18_39.2.2.1) rfl ?_
                refine XS.bipush X4_.here hx rfl (hC e18_39.2.2.2) ?_
                refine XS.icmpYes X4_.here hx rfl (pc0 := 46) (pc' := 55) rfl (hC e18_46.1) rfl (tlt (hm1 : (own_ch (f (0 : Int32))) < (65 : Int32))).1 (by decide) (by decide) ?_
                refine XS.iloadN X4_.here hx rfl (hC e18_46.2.1) rfl ?_
                refine XS.bipush X4_.here hx rfl (hC e18_46.2.2.1) ?_
                refine XS.icmpYes X4_.here hx rfl (pc0 := 58) (pc' := 67) rfl (hC e18_46.2.2.2) rfl (tlt (hm2 : (own_ch (f (0 : Int32))) < (97 : Int32))).1 (by decide) (by decide) ?_
                refine XS.iloadN X4_.here hx rfl (hC e18_67.1) rfl ?_
                refine XS.bipush X4_.here hx rfl (hC e18_67.2.1) ?_
                refine XS.icmpNo X4_.here hx rfl (hC e18_67.2.2.1) rfl (flt (hm3 : ¬ ((own_ch (f (0 : Int32))) < (48 : Int32)))).1 ?_
                refine XS.iloadN X4_.here hx rfl (hC e18_100.2.2.1) rfl ?_
                refine XS.bipush X4_.here hx rfl (hC e18_100.2.2.2) ?_
                refine XS.icmpNo X4_.here hx rfl (hC e18_76.1) rfl (tlt (hm4 : (57 : Int32) < (own_ch (f (0 : Int32))))).2.2.2 ?_
                refine XS.iloadN X4_.here hx rfl (hC e18_67.2.2.2) rfl ?_
                refine XS.bipush X4_.here hx rfl (hC e18_80.1) ?_
                refine XS.icmpNo X4_.here hx rfl (hC e18_80.2.1) rfl (feq (hm5 : ¬ ((own_ch (f (0 : Int32))) = (46 : Int32)))).1 ?_
                refine XS.iloadN X4_.here hx rfl (hC e18_85.1) rfl ?_
                refine XS.bipush X4_.here hx rfl (hC e18_85.2.1) ?_
                refine XS.icmpYes X4_.here hx rfl (pc0 := 88) (pc' := 103) rfl (hC e18_85.2.2.1) rfl (teq (hm6 : (own_ch (f (0 : Int32))) = (95 : Int32))).1 (by decide) (by decide) ?_
                refine XS.iconst X4_.here hx rfl (hC e18_80.2.2.1) ?_
                refine XS.goto X4_.here hx rfl (pc0 := 104) (pc' := 108) rfl (hC e18_80.2.2.2) (by decide) (by decide) ?_
                exact kK
              · by_cases hm7 : (own_ch (f (0 : Int32))) = (58 : Int32)
                · refine ⟨(1 : Int32), by rw [if_pos hm1, if_pos hm2, if_neg hm3, if_pos hm4, if_neg hm5, if_neg hm6, if_pos hm7], fun tT kK => ?_⟩
                  refine XS.iloadN X4_.here hx rfl (hC e18_39.2.2.1) rfl ?_
                  refine XS.bipush X4_.here hx rfl (hC e18_39.2.2.2) ?_
                  refine XS.icmpYes X4_.here hx rfl (pc0 := 46) (pc' := 55) rfl (hC e18_46.1) rfl (tlt (hm1 : (own_ch (f (0 : Int32))) < (65 : Int32))).1 (by decide) (by decide) ?_
                  refine XS.iloadN X4_.here hx rfl (hC e18_46.2.1) rfl ?_
                  refine XS.bipush X4_.here hx rfl (hC e18_46.2.2.1) ?_
                  refine XS.icmpYes X4_.here hx rfl (pc0 := 58) (pc' := 67) rfl (hC e18_46.2.2.2) rfl (tlt (hm2 : (own_ch (f (0 : Int32))) < (97 : Int32))).1 (by decide) (by decide) ?_
                  refine XS.iloadN X4_.here hx rfl (hC e18_67.1) rfl ?_
                  refine XS.bipush X4_.here hx rfl (hC e18_67.2.1) ?_
                  refine XS.icmpNo X4_.here hx rfl (hC e18_67.2.2.1) rfl (flt (hm3 : ¬ ((own_ch (f (0 : Int32))) < (48 : Int32)))).1 ?_
                  refine XS.iloadN X4_.here hx rfl (hC e18_100.2.2.1) rfl ?_
                  refine XS.bipush X4_.here hx rfl (hC e18_100.2.2.2) ?_
                  refine XS.icmpNo X4_.here hx rfl (hC e18_76.1) rfl (tlt (hm4 : (57 : Int32) < (own_ch (f (0 : Int32))))).2.2.2 ?_
                  refine XS.iloadN X4_.here hx rfl (hC e18_67.2.2.2) rfl ?_
                  refine XS.bipush X4_.here hx rfl (hC e18_80.1) ?_
                  refine XS.icmpNo X4_.here hx rfl (hC e18_80.2.1) rfl (feq (hm5 : ¬ ((own_ch (f (0 : Int32))) = (46 : Int32)))).1 ?_
                  refine XS.iloadN X4_.here hx rfl (hC e18_85.1) rfl ?_
                  refine XS.bipush X4_.here hx rfl (hC e18_85.2.1) ?_
                  refine XS.icmpNo X4_.here hx rfl (hC e18_85.2.2.1) rfl (feq (hm6 : ¬ ((own_ch (f (0 : Int32))) = (95 : Int32)))).1 ?_
                  refine XS.iloadN X4_.here hx rfl (hC e18_85.2.2.2) rfl ?_
                  refine XS.bipush X4_.here hx rfl (hC e18_92.1) ?_
                  refine XS.icmpYes X4_.here hx rfl (pc0 := 94) (pc' := 103) rfl (hC e18_92.2.1) rfl (teq (hm7 : (own_ch (f (0 : Int32))) = (58 : Int32))).1 (by decide) (by decide) ?_
                  refine XS.iconst X4_.here hx rfl (hC e18_80.2.2.1) ?_
                  show Steps pP.tables eE below (T4_.setTop (mkF mM 104 ll3 [(.int (1 : Int32))])) tT
                  refine XS.goto X4_.here hx rfl (pc0 := 104) (pc' := 108) rfl (hC e18_80.2.2.2) (by decide) (by decide) ?_
                  exact kK
                · by_cases hm8 : (own_ch (f (0 : Int32))) = (45 : Int32)
                  · refine ⟨(1 : Int32), by rw [if_pos hm1, if_pos hm2, if_neg hm3, if_pos hm4, if_neg hm5, if_neg hm6, if_neg hm7, if_pos hm8], fun tT kK => ?_⟩
                    refine XS.iloadN X4_.here hx rfl (hC e18_39.2.2.1) rfl ?_
                    refine XS.bipush X4_.here hx rfl (hC e18_39.2.2.2) ?_
                    refine XS.icmpYes X4_.here hx rfl (pc0 := 46) (pc' := 55) rfl (hC e18_46.1) rfl (tlt (hm1 : (own_ch (f (0 : Int32))) < (65 : Int32))).1 (by decide) (by decide) ?_
                    refine XS.iloadN X4_.here hx rfl (hC e18_46.2.1) rfl ?_
                    refine XS.bipush X4_.here hx rfl (hC e18_46.2.2.1) ?_
                    refine XS.icmpYes X4_.here hx rfl (pc0 := 58) (pc' := 67) rfl (hC e18_46.2.2.2) rfl (tlt (hm2 : (own_ch (f (0 : Int32))) < (97 : Int32))).1 (by decide) (by decide) ?_
                    refine XS.iloadN X4_.here hx rfl (hC e18_67.1) rfl ?_
                    refine XS.bipush X4_.here hx rfl (hC e18_67.2.1) ?_
                    refine XS.icmpNo X4_.here hx rfl (hC e18_67.2.2.1) rfl (flt (hm3 : ¬ ((own_ch (f (0 : Int32))) < (48 : Int32)))).1 ?_
                    refine XS.iloadN X4_.here hx rfl (hC e18_100.2.2.1) rfl ?_
                    refine XS.bipush X4_.here hx rfl (hC e18_100.2.2.2) ?_
                    refine XS.icmpNo X4_.here hx rfl (hC e18_76.1) rfl (tlt (hm4 : (57 : Int32) < (own_ch (f (0 : Int32))))).2.2.2 ?_
                    refine XS.iloadN X4_.here hx rfl (hC e18_67.2.2.2) rfl ?_
                    refine XS.bipush X4_.here hx rfl (hC e18_80.1) ?_
                    refine XS.icmpNo X4_.here hx rfl (hC e18_80.2.1) rfl (feq (hm5 : ¬ ((own_ch (f (0 : Int32))) = (46 : Int32)))).1 ?_
                    refine XS.iloadN X4_.here hx rfl (hC e18_85.1) rfl ?_
                    refine XS.bipush X4_.here hx rfl (hC e18_85.2.1) ?_
                    refine XS.icmpNo X4_.here hx rfl (hC e18_85.2.2.1) rfl (feq (hm6 : ¬ ((own_ch (f (0 : Int32))) = (95 : Int32)))).1 ?_
                    refine XS.iloadN X4_.here hx rfl (hC e18_85.2.2.2) rfl ?_
                    refine XS.bipush X4_.here hx rfl (hC e18_92.1) ?_
                    refine XS.icmpNo X4_.here hx rfl (hC e18_92.2.1) rfl (feq (hm7 : ¬ ((own_ch (f (0 : Int32))) = (58 : Int32)))).1 ?_
                    refine XS.iloadN X4_.here hx rfl (hC e18_92.2.2.1) rfl ?_
                    show Steps pP.tables eE below (T4_.setTop (mkF mM 98 ll3 [(.int (own_ch (f (0 : Int32))))])) tT
                    refine XS.bipush X4_.here hx rfl (hC e18_92.2.2.2) ?_
                    refine XS.icmpNo X4_.here hx rfl (hC e18_100.1) rfl (teq (hm8 : (own_ch (f (0 : Int32))) = (45 : Int32))).2 ?_
                    refine XS.iconst X4_.here hx rfl (hC e18_80.2.2.1) ?_
                    refine XS.goto X4_.here hx rfl (pc0 := 104) (pc' := 108) rfl (hC e18_80.2.2.2) (by decide) (by decide) ?_
                    exact kK
                  · refine ⟨(0 : Int32), by rw [if_pos hm1, if_pos hm2, if_neg hm3, if_pos hm4, if_neg hm5, if_neg hm6, if_neg hm7, if_neg hm8], fun tT kK => ?_⟩
                    refine XS.iloadN X4_.here hx rfl (hC e18_39.2.2.1) rfl ?_
                    refine XS.bipush X4_.here hx rfl (hC e18_39.2.2.2) ?_
                    refine XS.icmpYes X4_.here hx rfl (pc0 := 46) (pc' := 55) rfl (hC e18_46.1) rfl (tlt (hm1 : (own_ch (f (0 : Int32))) < (65 : Int32))).1 (by decide) (by decide) ?_
                    refine XS.iloadN X4_.here hx rfl (hC e18_46.2.1) rfl ?_
                    refine XS.bipush X4_.here hx rfl (hC e18_46.2.2.1) ?_
                    refine XS.icmpYes X4_.here hx rfl (pc0 := 58) (pc' := 67) rfl (hC e18_46.2.2.2) rfl (tlt (hm2 : (own_ch (f (0 : Int32))) < (97 : Int32))).1 (by decide) (by decide) ?_
                    refine XS.iloadN X4_.here hx rfl (hC e18_67.1) rfl ?_
                    refine XS.bipush X4_.here hx rfl (hC e18_67.2.1) ?_
                    refine XS.icmpNo X4_.here hx rfl (hC e18_67.2.2.1) rfl (flt (hm3 : ¬ ((own_ch (f (0 : Int32))) < (48 : Int32)))).1 ?_
                    refine XS.iloadN X4_.here hx rfl (hC e18_100.2.2.1) rfl ?_
                    refine XS.bipush X4_.here hx rfl (hC e18_100.2.2.2) ?_
                    refine XS.icmpNo X4_.here hx rfl (hC e18_76.1) rfl (tlt (hm4 : (57 : Int32) < (own_ch (f (0 : Int32))))).2.2.2 ?_
                    refine XS.iloadN X4_.here hx rfl (hC e18_67.2.2.2) rfl ?_
                    refine XS.bipush X4_.here hx rfl (hC e18_80.1) ?_
                    refine XS.icmpNo X4_.here hx rfl (hC e18_80.2.1) rfl (feq (hm5 : ¬ ((own_ch (f (0 : Int32))) = (46 : Int32)))).1 ?_
                    refine XS.iloadN X4_.here hx rfl (hC e18_85.1) rfl ?_
                    refine XS.bipush X4_.here hx rfl (hC e18_85.2.1) ?_
                    refine XS.icmpNo X4_.here hx rfl (hC e18_85.2.2.1) rfl (feq (hm6 : ¬ ((own_ch (f (0 : Int32))) = (95 : Int32)))).1 ?_
                    refine XS.iloadN X4_.here hx rfl (hC e18_85.2.2.2) rfl ?_
                    refine XS.bipush X4_.here hx rfl (hC e18_92.1) ?_
                    refine XS.icmpNo X4_.here hx rfl (hC e18_92.2.1) rfl (feq (hm7 : ¬ ((own_ch (f (0 : Int32))) = (58 : Int32)))).1 ?_
                    refine XS.iloadN X4_.here hx rfl (hC e18_92.2.2.1) rfl ?_
                    show Steps pP.tables eE below (T4_.setTop (mkF mM 98 ll3 [(.int (own_ch (f (0 : Int32))))])) tT
                    refine XS.bipush X4_.here hx rfl (hC e18_92.2.2.2) ?_
                    refine XS.icmpYes X4_.here hx rfl (pc0 := 100) (pc' := 107) rfl (hC e18_100.1) rfl (feq (hm8 : ¬ ((own_ch (f (0 : Int32))) = (45 : Int32)))).2 (by decide) (by decide) ?_
                    refine XS.iconst X4_.here hx rfl (hC e18_100.2.1) ?_
                    exact kK
          · refine ⟨(1 : Int32), by rw [if_pos hm1, if_pos hm2, if_neg hm3, if_neg hm4], fun tT kK => ?_⟩
            refine XS.iloadN X4_.here hx rfl (hC e18_39.2.2.1) rfl ?_
            refine XS.bipush X4_.here hx rfl (hC e18_39.2.2.2) ?_
            refine XS.icmpYes X4_.here hx rfl (pc0 := 46) (pc' := 55) rfl (hC e18_46.1) rfl (tlt (hm1 : (own_ch (f (0 : Int32))) < (65 : Int32))).1 (by decide) (by decide) ?_
            refine XS.iloadN X4_.here hx rfl (hC e18_46.2.1) rfl ?_
            refine XS.bipush X4_.here hx rfl (hC e18_46.2.2.1) ?_
            refine XS.icmpYes X4_.here hx rfl (pc0 := 58) (pc' := 67) rfl (hC e18_46.2.2.2) rfl (tlt (hm2 : (own_ch (f (0 : Int32))) < (97 : Int32))).1 (by decide) (by decide) ?_
            refine XS.iloadN X4_.here hx rfl (hC e18_67.1) rfl ?_
            refine XS.bipush X4_.here hx rfl (hC e18_67.2.1) ?_
            refine XS.icmpNo X4_.here hx rfl (hC e18_67.2.2.1) rfl (flt (hm3 : ¬ ((own_ch (f (0 : Int32))) < (48 : Int32)))).1 ?_
            refine XS.iloadN X4_.here hx rfl (hC e18_100.2.2.1) rfl ?_
            refine XS.bipush X4_.here hx rfl (hC e18_100.2.2.2) ?_
            refine XS.icmpYes X4_.here hx rfl (pc0 := 76) (pc' := 103) rfl (hC e18_76.1) rfl (flt (hm4 : ¬ ((57 : Int32) < (own_ch (f (0 : Int32)))))).2.2.2 (by decide) (by decide) ?_
            refine XS.iconst X4_.here hx rfl (hC e18_80.2.2.1) ?_
            refine XS.goto X4_.here hx rfl (pc0 := 104) (pc' := 108) rfl (hC e18_80.2.2.2) (by decide) (by decide) ?_
            exact kK
      · by_cases hm3 : (122 : Int32) < (own_ch (f (0 : Int32)))
        · by_cases hm4 : (own_ch (f (0 : Int32))) < (48 : Int32)
          · by_cases hm5 : (own_ch (f (0 : Int32))) = (46 : Int32)
            · refine ⟨(1 : Int32), by rw [if_pos hm1, if_neg hm2, if_pos hm3, if_pos hm4, if_pos hm5], fun tT kK => ?_⟩
              refine XS.iloadN X4_.here hx rfl (hC e18_39.2.2.1) rfl ?_
              refine XS.bipush X4_.here hx rfl (hC e18_39.2.2.2) ?_
              refine XS.icmpYes X4_.here hx rfl (pc0 := 46) (pc' := 55) rfl (hC e18_46.1) rfl (tlt (hm1 : (own_ch (f (0 : Int32))) < (65 : Int32))).1 (by decide) (by decide) ?_
              refine XS.iloadN X4_.here hx rfl (hC e18_46.2.1) rfl ?_
              refine XS.bipush X4_.here hx rfl (hC e18_46.2.2.1) ?_
              refine XS.icmpNo X4_.here hx rfl (hC e18_46.2.2.2) rfl (flt (hm2 : ¬ ((own_ch (f (0 : Int32))) < (97 : Int32)))).1 ?_
              refine XS.iloadN X4_.here hx rfl (hC e18_76.2.1) rfl ?_
              refine XS.bipush X4_.here hx rfl (hC e18_76.2.2.1) ?_
              refine XS.icmpNo X4_.here hx rfl (hC e18_76.2.2.2) rfl (tlt (hm3 : (122 : Int32) < (own_ch (f (0 : Int32))))).2.2.2 ?_
              refine XS.iloadN X4_.here hx rfl (hC e18_67.1) rfl ?_
              refine XS.bipush X4_.here hx rfl (hC e18_67.2.1) ?_
              refine XS.icmpYes X4_.here hx rfl (pc0 := 70) (pc' := 79) rfl (hC e18_67.2.2.1) rfl (tlt (hm4 : (own_ch (f (0 : Int32))) < (48 : Int32))).1 (by decide) (by decide) ?_
              refine XS.iloadN X4_.here hx rfl (hC e18_67.2.2.2) rfl ?_
              refine XS.bipush X4_.here hx rfl (hC e18_80.1) ?_
              refine XS.icmpYes X4_.here hx rfl (pc0 := 82) (pc' := 103) rfl (hC e18_80.2.1) rfl (teq (hm5 : (own_ch (f (0 : Int32))) = (46 : Int32))).1 (by decide) (by decide) ?_
              refine XS.iconst X4_.here hx rfl (hC e18_80.2.2.1) ?_
              refine XS.goto X4_.here hx rfl (pc0 := 104) (pc' := 108) rfl (hC e18_80.2.2.2) (by decide) (by decide) ?_
              exact kK
            · by_cases hm6 : (own_ch (f (0 : Int32))) = (95 : Int32)
              · refine ⟨(1 : Int32), by rw [if_pos hm1, if_neg hm2, if_pos hm3, if_pos hm4, if_neg hm5, if_pos hm6], fun tT kK => ?_⟩
                refine XS.iloadN X4_.here hx rfl (hC e18_39.2.2.1) rfl ?_
                refine XS.bipush X4_.here hx rfl (hC e18_39.2.2.2) ?_
                refine XS.icmpYes X4_.here hx rfl (pc0 := 46) (pc' := 55) rfl (hC e18_46.1) rfl (tlt (hm1 : (own_ch (f (0 : Int32))) < (65 : Int32))).1 (by decide) (by decide) ?_
                refine XS.iloadN X4_.here hx rfl (hC e18_46.2.1) rfl ?_
                refine XS.bipush X4_.here hx rfl (hC e18_46.2.2.1) ?_
                refine XS.icmpNo X4_.here hx rfl (hC e18_46.2.2.2) rfl (flt (hm2 : ¬ ((own_ch (f (0 : Int32))) < (97 : Int32)))).1 ?_
                refine XS.iloadN X4_.here hx rfl (hC e18_76.2.1) rfl ?_
                refine XS.bipush X4_.here hx rfl (hC e18_76.2.2.1) ?_
                refine XS.icmpNo X4_.here hx rfl (hC e18_76.2.2.2) rfl (tlt (hm3 : (122 : Int32) < (own_ch (f (0 : Int32))))).2.2.2 ?_
                refine XS.iloadN X4_.here hx rfl (hC e18_67.1) rfl ?_
                refine XS.bipush X4_.here hx rfl (hC e18_67.2.1) ?_
                refine XS.icmpYes X4_.here hx rfl (pc0 := 70) (pc' := 79) rfl (hC e18_67.2.2.1) rfl (tlt (hm4 : (own_ch (f (0 : Int32))) < (48 : Int32))).1 (by decide) (by decide) ?_
                refine XS.iloadN X4_.here hx rfl (hC e18_67.2.2.2) rfl ?_
                refine XS.bipush X4_.here hx rfl (hC e18_80.1) ?_
                refine XS.icmpNo X4_.here hx rfl (hC e18_80.2.1) rfl (feq (hm5 : ¬ ((own_ch (f (0 : Int32))) = (46 : Int32)))).1 ?_
                refine XS.iloadN X4_.here hx rfl (hC e18_85.1) rfl ?_
                refine XS.bipush X4_.here hx rfl (hC e18_85.2.1) ?_
                refine XS.icmpYes X4_.here hx rfl (pc0 := 88) (pc' := 103) rfl (hC e18_85.2.2.1) rfl (teq (hm6 : (own_ch (f (0 : Int32))) = (95 : Int32))).1 (by decide) (by decide) ?_
                refine XS.iconst X4_.here hx rfl (hC e18_80.2.2.1) ?_
                refine XS.goto X4_.here hx rfl (pc0 := 104) (pc' := 108) rfl (hC e18_80.2.2.2) (by decide) (by decide) ?_
                exact kK
              · by_cases hm7 : (own_ch (f (0 : Int32))) = (58 : Int32)
                · refine ⟨(1 : Int32), by rw [if_pos hm1, if_neg hm2, if_pos hm3, if_pos hm4, if_neg hm5, if_neg hm6, if_pos hm7], fun tT kK => ?_⟩
                  refine XS.iloadN X4_.here hx rfl (hC e18_39.2.2.1) rfl ?_
                  refine XS.bipush X4_.here hx rfl (hC e18_39.2.2.2) ?_
                  refine XS.icmpYes X4_.here hx rfl (pc0 := 46) (pc' := 55) rfl (hC e18_46.1) rfl (tlt (hm1 : (own_ch (f (0 : Int32))) < (65 : Int32))).1 (by decide) (by decide) ?_
                  refine XS.iloadN X4_.here hx rfl (hC e18_46.2.1) rfl ?_
                  refine XS.bipush X4_.here hx rfl (hC e18_46.2.2.1) ?_
                  refine XS.icmpNo X4_.here hx rfl (hC e18_46.2.2.2) rfl (flt (hm2 : ¬ ((own_ch (f (0 : Int32))) < (97 : Int32)))).1 ?_
                  refine XS.iloadN X4_.here hx rfl (hC e18_76.2.1) rfl ?_
                  refine XS.bipush X4_.here hx rfl (hC e18_76.2.2.1) ?_
                  refine XS.icmpNo X4_.here hx rfl (hC e18_76.2.2.2) rfl (tlt (hm3 : (122 : Int32) < (own_ch (f (0 : Int32))))).2.2.2 ?_
                  refine XS.iloadN X4_.here hx rfl (hC e18_67.1) rfl ?_
                  refine XS.bipush X4_.here hx rfl (hC e18_67.2.1) ?_
                  refine XS.icmpYes X4_.here hx rfl (pc0 := 70) (pc' := 79) rfl (hC e18_67.2.2.1) rfl (tlt (hm4 : (own_ch (f (0 : Int32))) < (48 : Int32))).1 (by decide) (by decide) ?_
                  refine XS.iloadN X4_.here hx rfl (hC e18_67.2.2.2) rfl ?_
                  refine XS.bipush X4_.here hx rfl (hC e18_80.1) ?_
                  refine XS.icmpNo X4_.here hx rfl (hC e18_80.2.1) rfl (feq (hm5 : ¬ ((own_ch (f (0 : Int32))) = (46 : Int32)))).1 ?_
                  refine XS.iloadN X4_.here hx rfl (hC e18_85.1) rfl ?_
                  refine XS.bipush X4_.here hx rfl (hC e18_85.2.1) ?_
                  refine XS.icmpNo X4_.here hx rfl (hC e18_85.2.2.1) rfl (feq (hm6 : ¬ ((own_ch (f (0 : Int32))) = (95 : Int32)))).1 ?_
                  refine XS.iloadN X4_.here hx rfl (hC e18_85.2.2.2) rfl ?_
                  refine XS.bipush X4_.here hx rfl (hC e18_92.1) ?_
                  refine XS.icmpYes X4_.here hx rfl (pc0 := 94) (pc' := 103) rfl (hC e18_92.2.1) rfl (teq (hm7 : (own_ch (f (0 : Int32))) = (58 : Int32))).1 (by decide) (by decide) ?_
                  refine XS.iconst X4_.here hx rfl (hC e18_80.2.2.1) ?_
                  show Steps pP.tables eE below (T4_.setTop (mkF mM 104 ll3 [(.int (1 : Int32))])) tT
                  refine XS.goto X4_.here hx rfl (pc0 := 104) (pc' := 108) rfl (hC e18_80.2.2.2) (by decide) (by decide) ?_
                  exact kK
                · by_cases hm8 : (own_ch (f (0 : Int32))) = (45 : Int32)
                  · refine ⟨(1 : Int32), by rw [if_pos hm1, if_neg hm2, if_pos hm3, if_pos hm4, if_neg hm5, if_neg hm6, if_neg hm7, if_pos hm8], fun tT kK => ?_⟩
                    refine XS.iloadN X4_.here hx rfl (hC e18_39.2.2.1) rfl ?_
                    refine XS.bipush X4_.here hx rfl (hC e18_39.2.2.2) ?_
                    refine XS.icmpYes X4_.here hx rfl (pc0 := 46) (pc' := 55) rfl (hC e18_46.1) rfl (tlt (hm1 : (own_ch (f (0 : Int32))) < (65 : Int32))).1 (by decide) (by decide) ?_
                    refine XS.iloadN X4_.here hx rfl (hC e18_46.2.1) rfl ?_
                    refine XS.bipush X4_.here hx rfl (hC e18_46.2.2.1) ?_
                    refine XS.icmpNo X4_.here hx rfl (hC e18_46.2.2.2) rfl (flt (hm2 : ¬ ((own_ch (f (0 : Int32))) < (97 : Int32)))).1 ?_
                    refine XS.iloadN X4_.here hx rfl (hC e18_76.2.1) rfl ?_
                    refine XS.bipush X4_.here hx rfl (hC e18_76.2.2.1) ?_
                    refine XS.icmpNo X4_.here hx rfl (hC e18_76.2.2.2) rfl (tlt (hm3 : (122 : Int32) < (own_ch (f (0 : Int32))))).2.2.2 ?_
                    refine XS.iloadN X4_.here hx rfl (hC e18_67.1) rfl ?_
                    refine XS.bipush X4_.here hx rfl (hC e18_67.2.1) ?_
                    refine XS.icmpYes X4_.here hx rfl (pc0 := 70) (pc' := 79) rfl (hC e18_67.2.2.1) rfl (tlt (hm4 : (own_ch (f (0 : Int32))) < (48 : Int32))).1 (by decide) (by decide) ?_
                    refine XS.iloadN X4_.here hx rfl (hC e18_67.2.2.2) rfl ?_
                    refine XS.bipush X4_.here hx rfl (hC e18_80.1) ?_
                    refine XS.icmpNo X4_.here hx rfl (hC e18_80.2.1) rfl (feq (hm5 : ¬ ((own_ch (f (0 : Int32))) = (46 : Int32)))).1 ?_
                    refine XS.iloadN X4_.here hx rfl (hC e18_85.1) rfl ?_
                    refine XS.bipush X4_.here hx rfl (hC e18_85.2.1) ?_
                    refine XS.icmpNo X4_.here hx rfl (hC e18_85.2.2.1) rfl (feq (hm6 : ¬ ((own_ch (f (0 : Int32))) = (95 : Int32)))).1 ?_
                    refine XS.iloadN X4_.here hx rfl (hC e18_85.2.2.2) rfl ?_
                    refine XS.bipush X4_.here hx rfl (hC e18_92.1) ?_
                    refine XS.icmpNo X4_.here hx rfl (hC e18_92.2.1) rfl (feq (hm7 : ¬ ((own_ch (f (0 : Int32))) = (58 : Int32)))).1 ?_
                    refine XS.iloadN X4_.here hx rfl (hC e18_92.2.2.1) rfl ?_
                    show Steps pP.tables eE below (T4_.setTop (mkF mM 98 ll3 [(.int (own_ch (f (0 : Int32))))])) tT
                    refine XS.bipush X4_.here hx rfl (hC e18_92.2.2.2) ?_
                    refine XS.icmpNo X4_.here hx rfl (hC e18_100.1) rfl (teq (hm8 : (own_ch (f (0 : Int32))) = (45 : Int32))).2 ?_
                    refine XS.iconst X4_.here hx rfl (hC e18_80.2.2.1) ?_
                    refine XS.goto X4_.here hx rfl (pc0 := 104) (pc' := 108) rfl (hC e18_80.2.2.2) (by decide) (by decide) ?_
                    exact kK
                  · refine ⟨(0 : Int32), by rw [if_pos hm1, if_neg hm2, if_pos hm3, if_pos hm4, if_neg hm5, if_neg hm6, if_neg hm7, if_neg hm8], fun tT kK => ?_⟩
                    refine XS.iloadN X4_.here hx rfl (hC e18_39.2.2.1) rfl ?_
                    refine XS.bipush X4_.here hx rfl (hC e18_39.2.2.2) ?_
                    refine XS.icmpYes X4_.here hx rfl (pc0 := 46) (pc' := 55) rfl (hC e18_46.1) rfl (tlt (hm1 : (own_ch (f (0 : Int32))) < (65 : Int32))).1 (by decide) (by decide) ?_
                    refine XS.iloadN X4_.here hx rfl (hC e18_46.2.1) rfl ?_
                    refine XS.bipush X4_.here hx rfl (hC e18_46.2.2.1) ?_
                    refine XS.icmpNo X4_.here hx rfl (hC e18_46.2.2.2) rfl (flt (hm2 : ¬ ((own_ch (f (0 : Int32))) < (97 : Int32)))).1 ?_
                    refine XS.iloadN X4_.here hx rfl (hC e18_76.2.1) rfl ?_
                    refine XS.bipush X4_.here hx rfl (hC e18_76.2.2.1) ?_
                    refine XS.icmpNo X4_.here hx rfl (hC e18_76.2.2.2) rfl (tlt (hm3 : (122 : Int32) < (own_ch (f (0 : Int32))))).2.2.2 ?_
                    refine XS.iloadN X4_.here hx rfl (hC e18_67.1) rfl ?_
                    refine XS.bipush X4_.here hx rfl (hC e18_67.2.1) ?_
                    refine XS.icmpYes X4_.here hx rfl (pc0 := 70) (pc' := 79) rfl (hC e18_67.2.2.1) rfl (tlt (hm4 : (own_ch (f (0 : Int32))) < (48 : Int32))).1 (by decide) (by decide) ?_
                    refine XS.iloadN X4_.here hx rfl (hC e18_67.2.2.2) rfl ?_
                    refine XS.bipush X4_.here hx rfl (hC e18_80.1) ?_
                    refine XS.icmpNo X4_.here hx rfl (hC e18_80.2.1) rfl (feq (hm5 : ¬ ((own_ch (f (0 : Int32))) = (46 : Int32)))).1 ?_
                    refine XS.iloadN X4_.here hx rfl (hC e18_85.1) rfl ?_
                    refine XS.bipush X4_.here hx rfl (hC e18_85.2.1) ?_
                    refine XS.icmpNo X4_.here hx rfl (hC e18_85.2.2.1) rfl (feq (hm6 : ¬ ((own_ch (f (0 : Int32))) = (95 : Int32)))).1 ?_
                    refine XS.iloadN X4_.here hx rfl (hC e18_85.2.2.2) rfl ?_
                    refine XS.bipush X4_.here hx rfl (hC e18_92.1) ?_
                    refine XS.icmpNo X4_.here hx rfl (hC e18_92.2.1) rfl (feq (hm7 : ¬ ((own_ch (f (0 : Int32))) = (58 : Int32)))).1 ?_
                    refine XS.iloadN X4_.here hx rfl (hC e18_92.2.2.1) rfl ?_
                    show Steps pP.tables eE below (T4_.setTop (mkF mM 98 ll3 [(.int (own_ch (f (0 : Int32))))])) tT
                    refine XS.bipush X4_.here hx rfl (hC e18_92.2.2.2) ?_
                    refine XS.icmpYes X4_.here hx rfl (pc0 := 100) (pc' := 107) rfl (hC e18_100.1) rfl (feq (hm8 : ¬ ((own_ch (f (0 : Int32))) = (45 : Int32)))).2 (by decide) (by decide) ?_
                    refine XS.iconst X4_.here hx rfl (hC e18_100.2.1) ?_
                    exact kK
          · by_cases hm5 : (57 : Int32) < (own_ch (f (0 : Int32)))
            · by_cases hm6 : (own_ch (f (0 : Int32))) = (46 : Int32)
              · refine ⟨(1 : Int32), by rw [if_pos hm1, if_neg hm2, if_pos hm3, if_neg hm4, if_pos hm5, if_pos hm6], fun tT kK => ?_⟩
                refine XS.iloadN X4_.here hx rfl (hC e18_39.2.2.1) rfl ?_
                refine XS.bipush X4_.here hx rfl (hC e18_39.2.2.2) ?_
                refine XS.icmpYes X4_.here hx rfl (pc0 := 46) (pc' := 55) rfl (hC e18_46.1) rfl (tlt (hm1 : (own_ch (f (0 : Int32))) < (65 : Int32))).1 (by decide) (by decide) ?_
                refine XS.iloadN X4_.here hx rfl (hC e18_46.2.1) rfl ?_
                refine XS.bipush X4_.here hx rfl (hC e18_46.2.2.1) ?_
                refine XS.icmpNo X4_.here hx rfl (hC e18_46.2.2.2) rfl (flt (hm2 : ¬ ((own_ch (f (0 : Int32))) < (97 : Int32)))).1 ?_
                refine XS.iloadN X4_.here hx rfl (hC e18_76.2.1) rfl ?_
                refine XS.bipush X4_.here hx rfl (hC e18_76.2.2.1) ?_
                refine XS.icmpNo X4_.here hx rfl (hC e18_76.2.2.2) rfl (tlt (hm3 : (122 : Int32) < (own_ch (f (0 : Int32))))).2.2.2 ?_
                refine XS.iloadN X4_.here hx rfl (hC e18_67.1) rfl ?_
                refine XS.bipush X4_.here hx rfl (hC e18_67.2.1) ?_
                refine XS.icmpNo X4_.here hx rfl (hC e18_67.2.2.1) rfl (flt (hm4 : ¬ ((own_ch (f (0 : Int32))) < (48 : Int32)))).1 ?_
                refine XS.iloadN X4_.here hx rfl (hC e18_100.2.2.1) rfl ?_
                refine XS.bipush X4_.here hx rfl (hC e18_100.2.2.2) ?_
                refine XS.icmpNo X4_.here hx rfl (hC e18_76.1) rfl (tlt (hm5 : (57 : Int32) < (own_ch (f (0 : Int32))))).2.2.2 ?_
                refine XS.iloadN X4_.here hx rfl (hC e18_67.2.2.2) rfl ?_
                refine XS.bipush X4_.here hx rfl (hC e18_80.1) ?_
                refine XS.icmpYes X4_.here hx rfl (pc0 := 82) (pc' := 103) rfl (hC e18_80.2.1) rfl (teq (hm6 : (own_ch (f (0 : Int32))) = (46 : Int32))).1 (by decide) (by decide) ?_
                refine XS.iconst X4_.here hx rfl (hC e18_80.2.2.1) ?_
                refine XS.goto X4_.here hx rfl (pc0 := 104) (pc' := 108) rfl (hC e18_80.2.2.2) (by decide) (by decide) ?_
                exact kK
              · by_cases hm7 : (own_ch (f (0 : Int32))) = (95 : Int32)
                · refine ⟨(1 : Int32), by rw [if_pos hm1, if_neg hm2, if_pos hm3, if_neg hm4, if_pos hm5, if_neg hm6, if_pos hm7], fun tT kK => ?_⟩
                  refine XS.iloadN X4_.here hx rfl (hC e18_39.2.2.1) rfl ?_
                  refine XS.bipush X4_.here hx rfl (hC e18_39.2.2.2) ?_
                  refine XS.icmpYes X4_.here hx rfl (pc0 := 46) (pc' := 55) rfl (hC e18_46.1) rfl (tlt (hm1 : (own_ch (f (0 : Int32))) < (65 : Int32))).1 (by decide) (by decide) ?_
                  refine XS.iloadN X4_.here hx rfl (hC e18_46.2.1) rfl ?_
                  refine XS.bipush X4_.here hx rfl (hC e18_46.2.2.1) ?_
                  refine XS.icmpNo X4_.here hx rfl (hC e18_46.2.2.2) rfl (flt (hm2 : ¬ ((own_ch (f (0 : Int32))) < (97 : Int32)))).1 ?_
                  refine XS.iloadN X4_.here hx rfl (hC e18_76.2.1) rfl ?_
                  refine XS.bipush X4_.here hx rfl (hC e18_76.2.2.1) ?_
                  refine XS.icmpNo X4_.here hx rfl (hC e18_76.2.2.2) rfl (tlt (hm3 : (122 : Int32) < (own_ch (f (0 : Int32))))).2.2.2 ?_
                  refine XS.iloadN X4_.here hx rfl (hC e18_67.1) rfl ?_
                  refine XS.bipush X4_.here hx rfl (hC e18_67.2.1) ?_
                  refine XS.icmpNo X4_.here hx rfl (hC e18_67.2.2.1) rfl (flt (hm4 : ¬ ((own_ch (f (0 : Int32))) < (48 : Int32)))).1 ?_
                  refine XS.iloadN X4_.here hx rfl (hC e18_100.2.2.1) rfl ?_
                  refine XS.bipush X4_.here hx rfl (hC e18_100.2.2.2) ?_
                  refine XS.icmpNo X4_.here hx rfl (hC e18_76.1) rfl (tlt (hm5 : (57 : Int32) < (own_ch (f (0 : Int32))))).2.2.2 ?_
                  refine XS.iloadN X4_.here hx rfl (hC e18_67.2.2.2) rfl ?_
                  refine XS.bipush X4_.here hx rfl (hC e18_80.1) ?_
                  refine XS.icmpNo X4_.here hx rfl (hC e18_80.2.1) rfl (feq (hm6 : ¬ ((own_ch (f (0 : Int32))) = (46 : Int32)))).1 ?_
                  refine XS.iloadN X4_.here hx rfl (hC e18_85.1) rfl ?_
                  refine XS.bipush X4_.here hx rfl (hC e18_85.2.1) ?_
                  refine XS.icmpYes X4_.here hx rfl (pc0 := 88) (pc' := 103) rfl (hC e18_85.2.2.1) rfl (teq (hm7 : (own_ch (f (0 : Int32))) = (95 : Int32))).1 (by decide) (by decide) ?_
                  refine XS.iconst X4_.here hx rfl (hC e18_80.2.2.1) ?_
                  show Steps pP.tables eE below (T4_.setTop (mkF mM 104 ll3 [(.int (1 : Int32))])) tT
                  refine XS.goto X4_.here hx rfl (pc0 := 104) (pc' := 108) rfl (hC e18_80.2.2.2) (by decide) (by decide) ?_
                  exact kK
                · by_cases hm8 : (own_ch (f (0 : Int32))) = (58 : Int32)
                  · refine ⟨(1 : Int32), by rw [if_pos hm1, if_neg hm2, if_pos hm3, if_neg hm4, if_pos hm5, if_neg hm6, if_neg hm7, if_pos hm8], fun tT kK => ?_⟩
                    refine XS.iloadN X4_.here hx rfl (hC e18_39.2.2.1) rfl ?_
                    refine XS.bipush X4_.here hx rfl (hC e18_39.2.2.2) ?_
                    refine XS.icmpYes X4_.here hx rfl (pc0 := 46) (pc' := 55) rfl (hC e18_46.1) rfl (tlt (hm1 : (own_ch (f (0 : Int32))) < (65 : Int32))).1 (by decide) (by decide) ?_
                    refine XS.iloadN X4_.here hx rfl (hC e18_46.2.1) rfl ?_
                    refine XS.bipush X4_.here hx rfl (hC e18_46.2.2.1) ?_
                    refine XS.icmpNo X4_.here hx rfl (hC e18_46.2.2.2) rfl (flt (hm2 : ¬ ((own_ch (f (0 : Int32))) < (97 : Int32)))).1 ?_
                    refine XS.iloadN X4_.here hx rfl (hC e18_76.2.1) rfl ?_
                    refine XS.bipush X4_.here hx rfl (hC e18_76.2.2.1) ?_
                    refine XS.icmpNo X4_.here hx rfl (hC e18_76.2.2.2) rfl (tlt (hm3 : (122 : Int32) < (own_ch (f (0 : Int32))))).2.2.2 ?_
                    refine XS.iloadN X4_.here hx rfl (hC e18_67.1) rfl ?_
                    refine XS.bipush X4_.here hx rfl (hC e18_67.2.1) ?_
                    refine XS.icmpNo X4_.here hx rfl (hC e18_67.2.2.1) rfl (flt (hm4 : ¬ ((own_ch (f (0 : Int32))) < (48 : Int32)))).1 ?_
                    refine XS.iloadN X4_.here hx rfl (hC e18_100.2.2.1) rfl ?_
                    refine XS.bipush X4_.here hx rfl (hC e18_100.2.2.2) ?_
                    refine XS.icmpNo X4_.here hx rfl (hC e18_76.1) rfl (tlt (hm5 : (57 : Int32) < (own_ch (f (0 : Int32))))).2.2.2 ?_
                    refine XS.iloadN X4_.here hx rfl (hC e18_67.2.2.2) rfl ?_
                    refine XS.bipush X4_.here hx rfl (hC e18_80.1) ?_
                    refine XS.icmpNo X4_.here hx rfl (hC e18_80.2.1) rfl (feq (hm6 : ¬ ((own_ch (f (0 : Int32))) = (46 : Int32)))).1 ?_
                    refine XS.iloadN X4_.here hx rfl (hC e18_85.1) rfl ?_
                    refine XS.bipush X4_.here hx rfl (hC e18_85.2.1) ?_
                    refine XS.icmpNo X4_.here hx rfl (hC e18_85.2.2.1) rfl (feq (hm7 : ¬ ((own_ch (f (0 : Int32))) = (95 : Int32)))).1 ?_
                    refine XS.iloadN X4_.here hx rfl (hC e18_85.2.2.2) rfl ?_
                    show Steps pP.tables eE below (T4_.setTop (mkF mM 92 ll3 [(.int (own_ch (f (0 : Int32))))])) tT
                    refine XS.bipush X4_.here hx rfl (hC e18_92.1) ?_
                    refine XS.icmpYes X4_.here hx rfl (pc0 := 94) (pc' := 103) rfl (hC e18_92.2.1) rfl (teq (hm8 : (own_ch (f (0 : Int32))) = (58 : Int32))).1 (by decide) (by decide) ?_
                    refine XS.iconst X4_.here hx rfl (hC e18_80.2.2.1) ?_
                    refine XS.goto X4_.here hx rfl (pc0 := 104) (pc' := 108) rfl (hC e18_80.2.2.2) (by decide) (by decide) ?_
                    exact kK
                  · by_cases hm9 : (own_ch (f (0 : Int32))) = (45 : Int32)
                    · refine ⟨(1 : Int32), by rw [if_pos hm1, if_neg hm2, if_pos hm3, if_neg hm4, if_pos hm5, if_neg hm6, if_neg hm7, if_neg hm8, if_pos hm9], fun tT kK => ?_⟩
                      refine XS.iloadN X4_.here hx rfl (hC e18_39.2.2.1) rfl ?_
                      refine XS.bipush X4_.here hx rfl (hC e18_39.2.2.2) ?_
                      refine XS.icmpYes X4_.here hx rfl (pc0 := 46) (pc' := 55) rfl (hC e18_46.1) rfl (tlt (hm1 : (own_ch (f (0 : Int32))) < (65 : Int32))).1 (by decide) (by decide) ?_
                      refine XS.iloadN X4_.here hx rfl (hC e18_46.2.1) rfl ?_
                      refine XS.bipush X4_.here hx rfl (hC e18_46.2.2.1) ?_
                      refine XS.icmpNo X4_.here hx rfl (hC e18_46.2.2.2) rfl (flt (hm2 : ¬ ((own_ch (f (0 : Int32))) < (97 : Int32)))).1 ?_
                      refine XS.iloadN X4_.here hx rfl (hC e18_76.2.1) rfl ?_
                      refine XS.bipush X4_.here hx rfl (hC e18_76.2.2.1) ?_
                      refine XS.icmpNo X4_.here hx rfl (hC e18_76.2.2.2) rfl (tlt (hm3 : (122 : Int32) < (own_ch (f (0 : Int32))))).2.2.2 ?_
                      refine XS.iloadN X4_.here hx rfl (hC e18_67.1) rfl ?_
                      refine XS.bipush X4_.here hx rfl (hC e18_67.2.1) ?_
                      refine XS.icmpNo X4_.here hx rfl (hC e18_67.2.2.1) rfl (flt (hm4 : ¬ ((own_ch (f (0 : Int32))) < (48 : Int32)))).1 ?_
                      refine XS.iloadN X4_.here hx rfl (hC e18_100.2.2.1) rfl ?_
                      refine XS.bipush X4_.here hx rfl (hC e18_100.2.2.2) ?_
                      refine XS.icmpNo X4_.here hx rfl (hC e18_76.1) rfl (tlt (hm5 : (57 : Int32) < (own_ch (f (0 : Int32))))).2.2.2 ?_
                      refine XS.iloadN X4_.here hx rfl (hC e18_67.2.2.2) rfl ?_
                      refine XS.bipush X4_.here hx rfl (hC e18_80.1) ?_
                      refine XS.icmpNo X4_.here hx rfl (hC e18_80.2.1) rfl (feq (hm6 : ¬ ((own_ch (f (0 : Int32))) = (46 : Int32)))).1 ?_
                      refine XS.iloadN X4_.here hx rfl (hC e18_85.1) rfl ?_
                      refine XS.bipush X4_.here hx rfl (hC e18_85.2.1) ?_
                      refine XS.icmpNo X4_.here hx rfl (hC e18_85.2.2.1) rfl (feq (hm7 : ¬ ((own_ch (f (0 : Int32))) = (95 : Int32)))).1 ?_
                      refine XS.iloadN X4_.here hx rfl (hC e18_85.2.2.2) rfl ?_
                      show Steps pP.tables eE below (T4_.setTop (mkF mM 92 ll3 [(.int (own_ch (f (0 : Int32))))])) tT
                      refine XS.bipush X4_.here hx rfl (hC e18_92.1) ?_
                      refine XS.icmpNo X4_.here hx rfl (hC e18_92.2.1) rfl (feq (hm8 : ¬ ((own_ch (f (0 : Int32))) = (58 : Int32)))).1 ?_
                      refine XS.iloadN X4_.here hx rfl (hC e18_92.2.2.1) rfl ?_
                      refine XS.bipush X4_.here hx rfl (hC e18_92.2.2.2) ?_
                      refine XS.icmpNo X4_.here hx rfl (hC e18_100.1) rfl (teq (hm9 : (own_ch (f (0 : Int32))) = (45 : Int32))).2 ?_
                      refine XS.iconst X4_.here hx rfl (hC e18_80.2.2.1) ?_
                      refine XS.goto X4_.here hx rfl (pc0 := 104) (pc' := 108) rfl (hC e18_80.2.2.2) (by decide) (by decide) ?_
                      exact kK
                    · refine ⟨(0 : Int32), by rw [if_pos hm1, if_neg hm2, if_pos hm3, if_neg hm4, if_pos hm5, if_neg hm6, if_neg hm7, if_neg hm8, if_neg hm9], fun tT kK => ?_⟩
                      refine XS.iloadN X4_.here hx rfl (hC e18_39.2.2.1) rfl ?_
                      refine XS.bipush X4_.here hx rfl (hC e18_39.2.2.2) ?_
                      refine XS.icmpYes X4_.here hx rfl (pc0 := 46) (pc' := 55) rfl (hC e18_46.1) rfl (tlt (hm1 : (own_ch (f (0 : Int32))) < (65 : Int32))).1 (by decide) (by decide) ?_
                      refine XS.iloadN X4_.here hx rfl (hC e18_46.2.1) rfl ?_
                      refine XS.bipush X4_.here hx rfl (hC e18_46.2.2.1) ?_
                      refine XS.icmpNo X4_.here hx rfl (hC e18_46.2.2.2) rfl (flt (hm2 : ¬ ((own_ch (f (0 : Int32))) < (97 : Int32)))).1 ?_
                      refine XS.iloadN X4_.here hx rfl (hC e18_76.2.1) rfl ?_
                      refine XS.bipush X4_.here hx rfl (hC e18_76.2.2.1) ?_
                      refine XS.icmpNo X4_.here hx rfl (hC e18_76.2.2.2) rfl (tlt (hm3 : (122 : Int32) < (own_ch (f (0 : Int32))))).2.2.2 ?_
                      refine XS.iloadN X4_.here hx rfl (hC e18_67.1) rfl ?_
                      refine XS.bipush X4_.here hx rfl (hC e18_67.2.1) ?_
                      refine XS.icmpNo X4_.here hx rfl (hC e18_67.2.2.1) rfl (flt (hm4 : ¬ ((own_ch (f (0 : Int32))) < (48 : Int32)))).1 ?_
                      refine XS.iloadN X4_.here hx rfl (hC e18_100.2.2.1) rfl ?_
                      refine XS.bipush X4_.here hx rfl (hC e18_100.2.2.2) ?_
                      refine XS.icmpNo X4_.here hx rfl (hC e18_76.1) rfl (tlt (hm5 : (57 : Int32) < (own_ch (f (0 : Int32))))).2.2.2 ?_
                      refine XS.iloadN X4_.here hx rfl (hC e18_67.2.2.2) rfl ?_
                      refine XS.bipush X4_.here hx rfl (hC e18_80.1) ?_
                      refine XS.icmpNo X4_.here hx rfl (hC e18_80.2.1) rfl (feq (hm6 : ¬ ((own_ch (f (0 : Int32))) = (46 : Int32)))).1 ?_
                      refine XS.iloadN X4_.here hx rfl (hC e18_85.1) rfl ?_
                      refine XS.bipush X4_.here hx rfl (hC e18_85.2.1) ?_
                      refine XS.icmpNo X4_.here hx rfl (hC e18_85.2.2.1) rfl (feq (hm7 : ¬ ((own_ch (f (0 : Int32))) = (95 : Int32)))).1 ?_
                      refine XS.iloadN X4_.here hx rfl (hC e18_85.2.2.2) rfl ?_
                      show Steps pP.tables eE below (T4_.setTop (mkF mM 92 ll3 [(.int (own_ch (f (0 : Int32))))])) tT
                      refine XS.bipush X4_.here hx rfl (hC e18_92.1) ?_
                      refine XS.icmpNo X4_.here hx rfl (hC e18_92.2.1) rfl (feq (hm8 : ¬ ((own_ch (f (0 : Int32))) = (58 : Int32)))).1 ?_
                      refine XS.iloadN X4_.here hx rfl (hC e18_92.2.2.1) rfl ?_
                      refine XS.bipush X4_.here hx rfl (hC e18_92.2.2.2) ?_
                      refine XS.icmpYes X4_.here hx rfl (pc0 := 100) (pc' := 107) rfl (hC e18_100.1) rfl (feq (hm9 : ¬ ((own_ch (f (0 : Int32))) = (45 : Int32)))).2 (by decide) (by decide) ?_
                      refine XS.iconst X4_.here hx rfl (hC e18_100.2.1) ?_
                      exact kK
            · refine ⟨(1 : Int32), by rw [if_pos hm1, if_neg hm2, if_pos hm3, if_neg hm4, if_neg hm5], fun tT kK => ?_⟩
              refine XS.iloadN X4_.here hx rfl (hC e18_39.2.2.1) rfl ?_
              refine XS.bipush X4_.here hx rfl (hC e18_39.2.2.2) ?_
              refine XS.icmpYes X4_.here hx rfl (pc0 := 46) (pc' := 55) rfl (hC e18_46.1) rfl (tlt (hm1 : (own_ch (f (0 : Int32))) < (65 : Int32))).1 (by decide) (by decide) ?_
              refine XS.iloadN X4_.here hx rfl (hC e18_46.2.1) rfl ?_
              refine XS.bipush X4_.here hx rfl (hC e18_46.2.2.1) ?_
              refine XS.icmpNo X4_.here hx rfl (hC e18_46.2.2.2) rfl (flt (hm2 : ¬ ((own_ch (f (0 : Int32))) < (97 : Int32)))).1 ?_
              refine XS.iloadN X4_.here hx rfl (hC e18_76.2.1) rfl ?_
              refine XS.bipush X4_.here hx rfl (hC e18_76.2.2.1) ?_
              refine XS.icmpNo X4_.here hx rfl (hC e18_76.2.2.2) rfl (tlt (hm3 : (122 : Int32) < (own_ch (f (0 : Int32))))).2.2.2 ?_
              refine XS.iloadN X4_.here hx rfl (hC e18_67.1) rfl ?_
              refine XS.bipush X4_.here hx rfl (hC e18_67.2.1) ?_
              refine XS.icmpNo X4_.here hx rfl (hC e18_67.2.2.1) rfl (flt (hm4 : ¬ ((own_ch (f (0 : Int32))) < (48 : Int32)))).1 ?_
              refine XS.iloadN X4_.here hx rfl (hC e18_100.2.2.1) rfl ?_
              refine XS.bipush X4_.here hx rfl (hC e18_100.2.2.2) ?_
              refine XS.icmpYes X4_.here hx rfl (pc0 := 76) (pc' := 103) rfl (hC e18_76.1) rfl (flt (hm5 : ¬ ((57 : Int32) < (own_ch (f (0 : Int32)))))).2.2.2 (by decide) (by decide) ?_
              refine XS.iconst X4_.here hx rfl (hC e18_80.2.2.1) ?_
              refine XS.goto X4_.here hx rfl (pc0 := 104) (pc' := 108) rfl (hC e18_80.2.2.2) (by decide) (by decide) ?_
              exact kK
        · refine ⟨(1 : Int32), by rw [if_pos hm1, if_neg hm2, if_neg hm3], fun tT kK => ?_⟩
          refine XS.iloadN X4_.here hx rfl (hC e18_39.2.2.1) rfl ?_
          refine XS.bipush X4_.here hx rfl (hC e18_39.2.2.2) ?_
          refine XS.icmpYes X4_.here hx rfl (pc0 := 46) (pc' := 55) rfl (hC e18_46.1) rfl (tlt (hm1 : (own_ch (f (0 : Int32))) < (65 : Int32))).1 (by decide) (by decide) ?_
          refine XS.iloadN X4_.here hx rfl (hC e18_46.2.1) rfl ?_
          refine XS.bipush X4_.here hx rfl (hC e18_46.2.2.1) ?_
          refine XS.icmpNo X4_.here hx rfl (hC e18_46.2.2.2) rfl (flt (hm2 : ¬ ((own_ch (f (0 : Int32))) < (97 : Int32)))).1 ?_
          refine XS.iloadN X4_.here hx rfl (hC e18_76.2.1) rfl ?_
          refine XS.bipush X4_.here hx rfl (hC e18_76.2.2.1) ?_
          refine XS.icmpYes X4_.here hx rfl (pc0 := 64) (pc' := 103) rfl (hC e18_76.2.2.2) rfl (flt (hm3 : ¬ ((122 : Int32) < (own_ch (f (0 : Int32)))))).2.2.2 (by decide) (by decide) ?_
          refine XS.iconst X4_.here hx rfl (hC e18_80.2.2.1) ?_
          refine XS.goto X4_.here hx rfl (pc0 := 104) (pc' := 108) rfl (hC e18_80.2.2.2) (by decide) (by decide) ?_
          exact kK
    · by_cases hm2 : (90 : Int32) < (own_ch (f (0 : Int32)))
      · by_cases hm3 : (own_ch (f (0 : Int32))) < (97 : Int32)
        · by_cases hm4 : (own_ch (f (0 : Int32))) < (48 : Int32)
          · by_cases hm5 : (own_ch (f (0 : Int32))) = (46 : Int32)
            · refine ⟨(1 : Int32), by rw [if_neg hm1, if_pos hm2, if_pos hm3, if_pos hm4, if_pos hm5], fun tT kK => ?_⟩
              refine XS.iloadN X4_.here hx rfl (hC e18_39.2.2.1) rfl ?_
              refine XS.bipush X4_.here hx rfl (hC e18_39.2.2.2) ?_
              refine XS.icmpNo X4_.here hx rfl (hC e18_46.1) rfl (flt (hm1 : ¬ ((own_ch (f (0 : Int32))) < (65 : Int32)))).1 ?_
              refine XS.iloadN X4_.here hx rfl (hC e18_49.1) rfl ?_
              refine XS.bipush X4_.here hx rfl (hC e18_49.2.1) ?_
              refine XS.icmpNo X4_.here hx rfl (hC e18_49.2.2.1) rfl (tlt (hm2 : (90 : Int32) < (own_ch (f (0 : Int32))))).2.2.2 ?_
              refine XS.iloadN X4_.here hx rfl (hC e18_46.2.1) rfl ?_
              refine XS.bipush X4_.here hx rfl (hC e18_46.2.2.1) ?_
              refine XS.icmpYes X4_.here hx rfl (pc0 := 58) (pc' := 67) rfl (hC e18_46.2.2.2) rfl (tlt (hm3 : (own_ch (f (0 : Int32))) < (97 : Int32))).1 (by decide) (by decide) ?_
              refine XS.iloadN X4_.here hx rfl (hC e18_67.1) rfl ?_
              refine XS.bipush X4_.here hx rfl (hC e18_67.2.1) ?_
              refine XS.icmpYes X4_.here hx rfl (pc0 := 70) (pc' := 79) rfl (hC e18_67.2.2.1) rfl (tlt (hm4 : (own_ch (f (0 : Int32))) < (48 : Int32))).1 (by decide) (by decide) ?_
              refine XS.iloadN X4_.here hx rfl (hC e18_67.2.2.2) rfl ?_
              refine XS.bipush X4_.here hx rfl (hC e18_80.1) ?_
              refine XS.icmpYes X4_.here hx rfl (pc0 := 82) (pc' := 103) rfl (hC e18_80.2.1) rfl (teq (hm5 : (own_ch (f (0 : Int32))) = (46 : Int32))).1 (by decide) (by decide) ?_
              refine XS.iconst X4_.here hx rfl (hC e18_80.2.2.1) ?_
              refine XS.goto X4_.here hx rfl (pc0 := 104) (pc' := 108) rfl (hC e18_80.2.2.2) (by decide) (by decide) ?_
              exact kK
            · by_cases hm6 : (own_ch (f (0 : Int32))) = (95 : Int32)
              · refine ⟨(1 : Int32), by rw [if_neg hm1, if_pos hm2, if_pos hm3, if_pos hm4, if_neg hm5, if_pos hm6], fun tT kK => ?_⟩
                refine XS.iloadN X4_.here hx rfl (hC e18_39.2.2.1) rfl ?_
                refine XS.bipush X4_.here hx rfl (hC e18_39.2.2.2) ?_
                refine XS.icmpNo X4_.here hx rfl (hC e18_46.1) rfl (flt (hm1 : ¬ ((own_ch (f (0 : Int32))) < (65 : Int32)))).1 ?_
                refine XS.iloadN X4_.here hx rfl (hC e18_49.1) rfl ?_
                refine XS.bipush X4_.here hx rfl (hC e18_49.2.1) ?_
                refine XS.icmpNo X4_.here hx rfl (hC e18_49.2.2.1) rfl (tlt (hm2 : (90 : Int32) < (own_ch (f (0 : Int32))))).2.2.2 ?_
                refine XS.iloadN X4_.here hx rfl (hC e18_46.2.1) rfl ?_
                refine XS.bipush X4_.here hx rfl (hC e18_46.2.2.1) ?_
                refine XS.icmpYes X4_.here hx rfl (pc0 := 58) (pc' := 67) rfl (hC e18_46.2.2.2) rfl (tlt (hm3 : (own_ch (f (0 : Int32))) < (97 : Int32))).1 (by decide) (by decide) ?_
                refine XS.iloadN X4_.here hx rfl (hC e18_67.1) rfl ?_
                refine XS.bipush X4_.here hx rfl (hC e18_67.2.1) ?_
                refine XS.icmpYes X4_.here hx rfl (pc0 := 70) (pc' := 79) rfl (hC e18_67.2.2.1) rfl (tlt (hm4 : (own_ch (f (0 : Int32))) < (48 : Int32))).1 (by decide) (by decide) ?_
                refine XS.iloadN X4_.here hx rfl (hC e18_67.2.2.2) rfl ?_
                refine XS.bipush X4_.here hx rfl (hC e18_80.1) ?_
                refine XS.icmpNo X4_.here hx rfl (hC e18_80.2.1) rfl (feq (hm5 : ¬ ((own_ch (f (0 : Int32))) = (46 : Int32)))).1 ?_
                refine XS.iloadN X4_.here hx rfl (hC e18_85.1) rfl ?_
                refine XS.bipush X4_.here hx rfl (hC e18_85.2.1) ?_
                refine XS.icmpYes X4_.here hx rfl (pc0 := 88) (pc' := 103) rfl (hC e18_85.2.2.1) rfl (teq (hm6 : (own_ch (f (0 : Int32))) = (95 : Int32))).1 (by decide) (by decide) ?_
                refine XS.iconst X4_.here hx rfl (hC e18_80.2.2.1) ?_
                refine XS.goto X4_.here hx rfl (pc0 := 104) (pc' := 108) rfl (hC e18_80.2.2.2) (by decide) (by decide) ?_
                exact kK
              · by_cases hm7 : (own_ch (f (0 : Int32))) = (58 : Int32)
                · refine ⟨(1 : Int32), by rw [if_neg hm1, if_pos hm2, if_pos hm3, if_pos hm4, if_neg hm5, if_neg hm6, if_pos hm7], fun tT kK => ?_⟩
                  refine XS.iloadN X4_.here hx rfl (hC e18_39.2.2.1) rfl ?_
                  refine XS.bipush X4_.here hx rfl (hC e18_39.2.2.2) ?_
                  refine XS.icmpNo X4_.here hx rfl (hC e18_46.1) rfl (flt (hm1 : ¬ ((own_ch (f (0 : Int32))) < (65 : Int32)))).1 ?_
                  refine XS.iloadN X4_.here hx rfl (hC e18_49.1) rfl ?_
                  refine XS.bipush X4_.here hx rfl (hC e18_49.2.1) ?_
                  refine XS.icmpNo X4_.here hx rfl (hC e18_49.2.2.1) rfl (tlt (hm2 : (90 : Int32) < (own_ch (f (0 : Int32))))).2.2.2 ?_
                  refine XS.iloadN X4_.here hx rfl (hC e18_46.2.1) rfl ?_
                  refine XS.bipush X4_.here hx rfl (hC e18_46.2.2.1) ?_
                  refine XS.icmpYes X4_.here hx rfl (pc0 := 58) (pc' := 67) rfl (hC e18_46.2.2.2) rfl (tlt (hm3 : (own_ch (f (0 : Int32))) < (97 : Int32))).1 (by decide) (by decide) ?_
                  refine XS.iloadN X4_.here hx rfl (hC e18_67.1) rfl ?_
                  refine XS.bipush X4_.here hx rfl (hC e18_67.2.1) ?_
                  refine XS.icmpYes X4_.here hx rfl (pc0 := 70) (pc' := 79) rfl (hC e18_67.2.2.1) rfl (tlt (hm4 : (own_ch (f (0 : Int32))) < (48 : Int32))).1 (by decide) (by decide) ?_
                  refine XS.iloadN X4_.here hx rfl (hC e18_67.2.2.2) rfl ?_
                  refine XS.bipush X4_.here hx rfl (hC e18_80.1) ?_
                  refine XS.icmpNo X4_.here hx rfl (hC e18_80.2.1) rfl (feq (hm5 : ¬ ((own_ch (f (0 : Int32))) = (46 : Int32)))).1 ?_
                  refine XS.iloadN X4_.here hx rfl (hC e18_85.1) rfl ?_
                  refine XS.bipush X4_.here hx rfl (hC e18_85.2.1) ?_
                  refine XS.icmpNo X4_.here hx rfl (hC e18_85.2.2.1) rfl (feq (hm6 : ¬ ((own_ch (f (0 : Int32))) = (95 : Int32)))).1 ?_
                  refine XS.iloadN X4_.here hx rfl (hC e18_85.2.2.2) rfl ?_
                  refine XS.bipush X4_.here hx rfl (hC e18_92.1) ?_
                  refine XS.icmpYes X4_.here hx rfl (pc0 := 94) (pc' := 103) rfl (hC e18_92.2.1) rfl (teq (hm7 : (own_ch (f (0 : Int32))) = (58 : Int32))).1 (by decide) (by decide) ?_
                  refine XS.iconst X4_.here hx rfl (hC e18_80.2.2.1) ?_
                  show Steps pP.tables eE below (T4_.setTop (mkF mM 104 ll3 [(.int (1 : Int32))])) tT
                  refine XS.goto X4_.here hx rfl (pc0 := 104) (pc' := 108) rfl (hC e18_80.2.2.2) (by decide) (by decide) ?_
                  exact kK
                · by_cases hm8 : (own_ch (f (0 : Int32))) = (45 : Int32)
                  · refine ⟨(1 : Int32), by rw [if_neg hm1, if_pos hm2, if_pos hm3, if_pos hm4, if_neg hm5, if_neg hm6, if_neg hm7, if_pos hm8], fun tT kK => ?_⟩
                    refine XS.iloadN X4_.here hx rfl (hC e18_39.2.2.1) rfl ?_
                    refine XS.bipush X4_.here hx rfl (hC e18_39.2.2.2) ?_
                    refine XS.icmpNo X4_.here hx rfl (hC e18_46.1) rfl (flt (hm1 : ¬ ((own_ch (f (0 : Int32))) < (65 : Int32)))).1 ?_
                    refine XS.iloadN X4_.here hx rfl (hC e18_49.1) rfl ?_
                    refine XS.bipush X4_.here hx rfl (hC e18_49.2.1) ?_
                    refine XS.icmpNo X4_.here hx rfl (hC e18_49.2.2.1) rfl (tlt (hm2 : (90 : Int32) < (own_ch (f (0 : Int32))))).2.2.2 ?_
                    refine XS.iloadN X4_.here hx rfl (hC e18_46.2.1) rfl ?_
                    refine XS.bipush X4_.here hx rfl (hC e18_46.2.2.1) ?_
                    refine XS.icmpYes X4_.here hx rfl (pc0 := 58) (pc' := 67) rfl (hC e18_46.2.2.2) rfl (tlt (hm3 : (own_ch (f (0 : Int32))) < (97 : Int32))).1 (by decide) (by decide) ?_
                    refine XS.iloadN X4_.here hx rfl (hC e18_67.1) rfl ?_
                    refine XS.bipush X4_.here hx rfl (hC e18_67.2.1) ?_
                    refine XS.icmpYes X4_.here hx rfl (pc0 := 70) (pc' := 79) rfl (hC e18_67.2.2.1) rfl (tlt (hm4 : (own_ch (f (0 : Int32))) < (48 : Int32))).1 (by decide) (by decide) ?_
                    refine XS.iloadN X4_.here hx rfl (hC e18_67.2.2.2) rfl ?_
                    refine XS.bipush X4_.here hx rfl (hC e18_80.1) ?_
                    refine XS.icmpNo X4_.here hx rfl (hC e18_80.2.1) rfl (feq (hm5 : ¬ ((own_ch (f (0 : Int32))) = (46 : Int32)))).1 ?_
                    refine XS.iloadN X4_.here hx rfl (hC e18_85.1) rfl ?_
                    refine XS.bipush X4_.here hx rfl (hC e18_85.2.1) ?_
                    refine XS.icmpNo X4_.here hx rfl (hC e18_85.2.2.1) rfl (feq (hm6 : ¬ ((own_ch (f (0 : Int32))) = (95 : Int32)))).1 ?_
                    refine XS.iloadN X4_.here hx rfl (hC e18_85.2.2.2) rfl ?_
                    refine XS.bipush X4_.here hx rfl (hC e18_92.1) ?_
                    refine XS.icmpNo X4_.here hx rfl (hC e18_92.2.1) rfl (feq (hm7 : ¬ ((own_ch (f (0 : Int32))) = (58 : Int32)))).1 ?_
                    refine XS.iloadN X4_.here hx rfl (hC e18_92.2.2.1) rfl ?_
                    show Steps pP.tables eE below (T4_.setTop (mkF mM 98 ll3 [(.int (own_ch (f (0 : Int32))))])) tT
                    refine XS.bipush X4_.here hx rfl (hC e18_92.2.2.2) ?_
                    refine XS.icmpNo X4_.here hx rfl (hC e18_100.1) rfl (teq (hm8 : (own_ch (f (0 : Int32))) = (45 : Int32))).2 ?_
                    refine XS.iconst X4_.here hx rfl (hC e18_80.2.2.1) ?_
                    refine XS.goto X4_.here hx rfl (pc0 := 104) (pc' := 108) rfl (hC e18_80.2.2.2) (by decide) (by decide) ?_
                    exact kK
                  · refine ⟨(0 : Int32), by rw [if_neg hm1, if_pos hm2, if_pos hm3, if_pos hm4, if_neg hm5, if_neg hm6, if_neg hm7, if_neg hm8], fun tT kK => ?_⟩
                    refine XS.iloadN X4_.here hx rfl (hC e18_39.2.2.1) rfl ?_
                    refine XS.bipush X4_.here hx rfl (hC e18_39.2.2.2) ?_
                    refine XS.icmpNo X4_.here hx rfl (hC e18_46.1) rfl (flt (hm1 : ¬ ((own_ch (f (0 : Int32))) < (65 : Int32)))).1 ?_
                    refine XS.iloadN X4_.here hx rfl (hC e18_49.1) rfl ?_
                    refine XS.bipush X4_.here hx rfl (hC e18_49.2.1) ?_
                    refine XS.icmpNo X4_.here hx rfl (hC e18_49.2.2.1) rfl (tlt (hm2 : (90 : Int32) < (own_ch (f (0 : Int32))))).2.2.2 ?_
                    refine XS.iloadN X4_.here hx rfl (hC e18_46.2.1) rfl ?_
                    refine XS.bipush X4_.here hx rfl (hC e18_46.2.2.1) ?_
                    refine XS.icmpYes X4_.here hx rfl (pc0 := 58) (pc' := 67) rfl (hC e18_46.2.2.2) rfl (tlt (hm3 : (own_ch (f (0 : Int32))) < (97 : Int32))).1 (by decide) (by decide) ?_
                    refine XS.iloadN X4_.here hx rfl (hC e18_67.1) rfl ?_
                    refine XS.bipush X4_.here hx rfl (hC e18_67.2.1) ?_
                    refine XS.icmpYes X4_.here hx rfl (pc0 := 70) (pc' := 79) rfl (hC e18_67.2.2.1) rfl (tlt (hm4 : (own_ch (f (0 : Int32))) < (48 : Int32))).1 (by decide) (by decide) ?_
                    refine XS.iloadN X4_.here hx rfl (hC e18_67.2.2.2) rfl ?_
                    refine XS.bipush X4_.here hx rfl (hC e18_80.1) ?_
                    refine XS.icmpNo X4_.here hx rfl (hC e18_80.2.1) rfl (feq (hm5 : ¬ ((own_ch (f (0 : Int32))) = (46 : Int32)))).1 ?_
                    refine XS.iloadN X4_.here hx rfl (hC e18_85.1) rfl ?_
                    refine XS.bipush X4_.here hx rfl (hC e18_85.2.1) ?_
                    refine XS.icmpNo X4_.here hx rfl (hC e18_85.2.2.1) rfl (feq (hm6 : ¬ ((own_ch (f (0 : Int32))) = (95 : Int32)))).1 ?_
                    refine XS.iloadN X4_.here hx rfl (hC e18_85.2.2.2) rfl ?_
                    refine XS.bipush X4_.here hx rfl (hC e18_92.1) ?_
                    refine XS.icmpNo X4_.here hx rfl (hC e18_92.2.1) rfl (feq (hm7 : ¬ ((own_ch (f (0 : Int32))) = (58 : Int32)))).1 ?_
                    refine XS.iloadN X4_.here hx rfl (hC e18_92.2.2.1) rfl ?_
                    show Steps pP.tables eE below (T4_.setTop (mkF mM 98 ll3 [(.int (own_ch (f (0 : Int32))))])) tT
                    refine XS.bipush X4_.here hx rfl (hC e18_92.2.2.2) ?_
                    refine XS.icmpYes X4_.here hx rfl (pc0 := 100) (pc' := 107) rfl (hC e18_100.1) rfl (feq (hm8 : ¬ ((own_ch (f (0 : Int32))) = (45 : Int32)))).2 (by decide) (by decide) ?_
                    refine XS.iconst X4_.here hx rfl (hC e18_100.2.1) ?_
                    exact kK
          · by_cases hm5 : (57 : Int32) < (own_ch (f (0 : Int32)))
            · by_cases hm6 : (own_ch (f (0 : Int32))) = (46 : Int32)
              · refine ⟨(1 : Int32), by rw [if_neg hm1, if_pos hm2, if_pos hm3, if_neg hm4, if_pos hm5, if_pos hm6], fun tT kK => ?_⟩
                refine XS.iloadN X4_.here hx rfl (hC e18_39.2.2.1) rfl ?_
                refine XS.bipush X4_.here hx rfl (hC e18_39.2.2.2) ?_
                refine XS.icmpNo X4_.here hx rfl (hC e18_46.1) rfl (flt (hm1 : ¬ ((own_ch (f (0 : Int32))) < (65 : Int32)))).1 ?_
                refine XS.iloadN X4_.here hx rfl (hC e18_49.1) rfl ?_
                refine XS.bipush X4_.here hx rfl (hC e18_49.2.1) ?_
                refine XS.icmpNo X4_.here hx rfl (hC e18_49.2.2.1) rfl (tlt (hm2 : (90 : Int32) < (own_ch (f (0 : Int32))))).2.2.2 ?_
                refine XS.iloadN X4_.here hx rfl (hC e18_46.2.1) rfl ?_
                refine XS.bipush X4_.here hx rfl (hC e18_46.2.2.1) ?_
                refine XS.icmpYes X4_.here hx rfl (pc0 := 58) (pc' := 67) rfl (hC e18_46.2.2.2) rfl (tlt (hm3 : (own_ch (f (0 : Int32))) < (97 : Int32))).1 (by decide) (by decide) ?_
                refine XS.iloadN X4_.here hx rfl (hC e18_67.1) rfl ?_
                refine XS.bipush X4_.here hx rfl (hC e18_67.2.1) ?_
                refine XS.icmpNo X4_.here hx rfl (hC e18_67.2.2.1) rfl (flt (hm4 : ¬ ((own_ch (f (0 : Int32))) < (48 : Int32)))).1 ?_
                refine XS.iloadN X4_.here hx rfl (hC e18_100.2.2.1) rfl ?_
                refine XS.bipush X4_.here hx rfl (hC e18_100.2.2.2) ?_
                refine XS.icmpNo X4_.here hx rfl (hC e18_76.1) rfl (tlt (hm5 : (57 : Int32) < (own_ch (f (0 : Int32))))).2.2.2 ?_
                refine XS.iloadN X4_.here hx rfl (hC e18_67.2.2.2) rfl ?_
                refine XS.bipush X4_.here hx rfl (hC e18_80.1) ?_
                refine XS.icmpYes X4_.here hx rfl (pc0 := 82) (pc' := 103) rfl (hC e18_80.2.1) rfl (teq (hm6 : (own_ch (f (0 : Int32))) = (46 : Int32))).1 (by decide) (by decide) ?_
                refine XS.iconst X4_.here hx rfl (hC e18_80.2.2.1) ?_
                refine XS.goto X4_.here hx rfl (pc0 := 104) (pc' := 108) rfl (hC e18_80.2.2.2) (by decide) (by decide) ?_
                exact kK
              · by_cases hm7 : (own_ch (f (0 : Int32))) = (95 : Int32)
                · refine ⟨(1 : Int32), by rw [if_neg hm1, if_pos hm2, if_pos hm3, if_neg hm4, if_pos hm5, if_neg hm6, if_pos hm7], fun tT kK => ?_⟩
                  refine XS.iloadN X4_.here hx rfl (hC e18_39.2.2.1) rfl ?_
                  refine XS.bipush X4_.here hx rfl (hC e18_39.2.2.2) ?_
                  refine XS.icmpNo X4_.here hx rfl (hC e18_46.1) rfl (flt (hm1 : ¬ ((own_ch (f (0 : Int32))) < (65 : Int32)))).1 ?_
                  refine XS.iloadN X4_.here hx rfl (hC e18_49.1) rfl ?_
                  refine XS.bipush X4_.here hx rfl (hC e18_49.2.1) ?_
                  refine XS.icmpNo X4_.here hx rfl (hC e18_49.2.2.1) rfl (tlt (hm2 : (90 : Int32) < (own_ch (f (0 : Int32))))).2.2.2 ?_
                  refine XS.iloadN X4_.here hx rfl (hC e18_46.2.1) rfl ?_
                  refine XS.bipush X4_.here hx rfl (hC e18_46.2.2.1) ?_
                  refine XS.icmpYes X4_.here hx rfl (pc0 := 58) (pc' := 67) rfl (hC e18_46.2.2.2) rfl (tlt (hm3 : (own_ch (f (0 : Int32))) < (97 : Int32))).1 (by decide) (by decide) ?_
                  refine XS.iloadN X4_.here hx rfl (hC e18_67.1) rfl ?_
                  refine XS.bipush X4_.here hx rfl (hC e18_67.2.1) ?_
                  refine XS.icmpNo X4_.here hx rfl (hC e18_67.2.2.1) rfl (flt (hm4 : ¬ ((own_ch (f (0 : Int32))) < (48 : Int32)))).1 ?_
                  refine XS.iloadN X4_.here hx rfl (hC e18_100.2.2.1) rfl ?_
                  refine XS.bipush X4_.here hx rfl (hC e18_100.2.2.2) ?_
                  refine XS.icmpNo X4_.here hx rfl (hC e18_76.1) rfl (tlt (hm5 : (57 : Int32) < (own_ch (f (0 : Int32))))).2.2.2 ?_
                  refine XS.iloadN X4_.here hx rfl (hC e18_67.2.2.2) rfl ?_
                  refine XS.bipush X4_.here hx rfl (hC e18_80.1) ?_
                  refine XS.icmpNo X4_.here hx rfl (hC e18_80.2.1) rfl (feq (hm6 : ¬ ((own_ch (f (0 : Int32))) = (46 : Int32)))).1 ?_
                  refine XS.iloadN X4_.here hx rfl (hC e18_85.1) rfl ?_
                  refine XS.bipush X4_.here hx rfl (hC e18_85.2.1) ?_
                  refine XS.icmpYes X4_.here hx rfl (pc0 := 88) (pc' := 103) rfl (hC e18_85.2.2.1) rfl (teq (hm7 : (own_ch (f (0 : Int32))) = (95 : Int32))).1 (by decide) (by decide) ?_
                  refine XS.iconst X4_.here hx rfl (hC e18_80.2.2.1) ?_
                  show Steps pP.tables eE below (T4_.setTop (mkF mM 104 ll3 [(.int (1 : Int32))])) tT
                  refine XS.goto X4_.here hx rfl (pc0 := 104) (pc' := 108) rfl (hC e18_80.2.2.2) (by decide) (by decide) ?_
                  exact kK
                · by_cases hm8 : (own_ch (f (0 : Int32))) = (58 : Int32)
                  · refine ⟨(1 : Int32), by rw [if_neg hm1, if_pos hm2, if_pos hm3, if_neg hm4, if_pos hm5, if_neg hm6, if_neg hm7, if_pos hm8], fun tT kK => ?_⟩
                    refine XS.iloadN X4_.here hx rfl (hC e18_39.2.2.1) rfl ?_
                    refine XS.bipush X4_.here hx rfl (hC e18_39.2.2.2) ?_
                    refine XS.icmpNo X4_.here hx rfl (hC e18_46.1) rfl (flt (hm1 : ¬ ((own_ch (f (0 : Int32))) < (65 : Int32)))).1 ?_
                    refine XS.iloadN X4_.here hx rfl (hC e18_49.1) rfl ?_
                    refine XS.bipush X4_.here hx rfl (hC e18_49.2.1) ?_
                    refine XS.icmpNo X4_.here hx rfl (hC e18_49.2.2.1) rfl (tlt (hm2 : (90 : Int32) < (own_ch (f (0 : Int32))))).2.2.2 ?_
                    refine XS.iloadN X4_.here hx rfl (hC e18_46.2.1) rfl ?_
                    refine XS.bipush X4_.here hx rfl (hC e18_46.2.2.1) ?_
                    refine XS.icmpYes X4_.here hx rfl (pc0 := 58) (pc' := 67) rfl (hC e18_46.2.2.2) rfl (tlt (hm3 : (own_ch (f (0 : Int32))) < (97 : Int32))).1 (by decide) (by decide) ?_
                    refine XS.iloadN X4_.here hx rfl (hC e18_67.1) rfl ?_
                    refine XS.bipush X4_.here hx rfl (hC e18_67.2.1) ?_
                    refine XS.icmpNo X4_.here hx rfl (hC e18_67.2.2.1) rfl (flt (hm4 : ¬ ((own_ch (f (0 : Int32))) < (48 : Int32)))).1 ?_
                    refine XS.iloadN X4_.here hx rfl (hC e18_100.2.2.1) rfl ?_
                    refine XS.bipush X4_.here hx rfl (hC e18_100.2.2.2) ?_
                    refine XS.icmpNo X4_.here hx rfl (hC e18_76.1) rfl (tlt (hm5 : (57 : Int32) < (own_ch (f (0 : Int32))))).2.2.2 ?_
                    refine XS.iloadN X4_.here hx rfl (hC e18_67.2.2.2) rfl ?_
                    refine XS.bipush X4_.here hx rfl (hC e18_80.1) ?_
                    refine XS.icmpNo X4_.here hx rfl (hC e18_80.2.1) rfl (feq (hm6 : ¬ ((own_ch (f (0 : Int32))) = (46 : Int32)))).1 ?_
                    refine XS.iloadN X4_.here hx rfl (hC e18_85.1) rfl ?_
                    refine XS.bipush X4_.here hx rfl (hC e18_85.2.1) ?_
                    refine XS.icmpNo X4_.here hx rfl (hC e18_85.2.2.1) rfl (feq (hm7 : ¬ ((own_ch (f (0 : Int32))) = (95 : Int32)))).1 ?_
                    refine XS.iloadN X4_.here hx rfl (hC e18_85.2.2.2) rfl ?_
                    show Steps pP.tables eE below (T4_.setTop (mkF mM 92 ll3 [(.int (own_ch (f (0 : Int32))))])) tT
                    refine XS.bipush X4_.here hx rfl (hC e18_92.1) ?_
                    refine XS.icmpYes X4_.here hx rfl (pc0 := 94) (pc' := 103) rfl (hC e18_92.2.1) rfl (teq (hm8 : (own_ch (f (0 : Int32))) = (58 : Int32))).1 (by decide) (by decide) ?_
                    refine XS.iconst X4_.here hx rfl (hC e18_80.2.2.1) ?_
                    refine XS.goto X4_.here hx rfl (pc0 := 104) (pc' := 108) rfl (hC e18_80.2.2.2) (by decide) (by decide) ?_
                    exact kK
                  · by_cases hm9 : (own_ch (f (0 : Int32))) = (45 : Int32)
                    · refine ⟨(1 : Int32), by rw [if_neg hm1, if_pos hm2, if_pos hm3, if_neg hm4, if_pos hm5, if_neg hm6, if_neg hm7, if_neg hm8, if_pos hm9], fun tT kK => ?_⟩
                      refine XS.iloadN X4_.here hx rfl (hC e18_39.2.2.1) rfl ?_
                      refine XS.bipush X4_.here hx rfl (hC e18_39.2.2.2) ?_
                      refine XS.icmpNo X4_.here hx rfl (hC e18_46.1) rfl (flt (hm1 : ¬ ((own_ch (f (0 : Int32))) < (65 : Int32)))).1 ?_
                      refine XS.iloadN X4_.here hx rfl (hC e18_49.1) rfl ?_
                      refine XS.bipush X4_.here hx rfl (hC e18_49.2.1) ?_
                      refine XS.icmpNo X4_.here hx rfl (hC e18_49.2.2.1) rfl (tlt (hm2 : (90 : Int32) < (own_ch (f (0 : Int32))))).2.2.2 ?_
                      refine XS.iloadN X4_.here hx rfl (hC e18_46.2.1) rfl ?_
                      refine XS.bipush X4_.here hx rfl (hC e18_46.2.2.1) ?_
                      refine XS.icmpYes X4_.here hx rfl (pc0 := 58) (pc' := 67) rfl (hC e18_46.2.2.2) rfl (tlt (hm3 : (own_ch (f (0 : Int32))) < (97 : Int32))).1 (by decide) (by decide) ?_
                      refine XS.iloadN X4_.here hx rfl (hC e18_67.1) rfl ?_
                      refine XS.bipush X4_.here hx rfl (hC e18_67.2.1) ?_
                      refine XS.icmpNo X4_.here hx rfl (hC e18_67.2.2.1) rfl (flt (hm4 : ¬ ((own_ch (f (0 : Int32))) < (48 : Int32)))).1 ?_
                      refine XS.iloadN X4_.here hx rfl (hC e18_100.2.2.1) rfl ?_
                      refine XS.bipush X4_.here hx rfl (hC e18_100.2.2.2) ?_
                      refine XS.icmpNo X4_.here hx rfl (hC e18_76.1) rfl (tlt (hm5 : (57 : Int32) < (own_ch (f (0 : Int32))))).2.2.2 ?_
                      refine XS.iloadN X4_.here hx rfl (hC e18_67.2.2.2) rfl ?_
                      refine XS.bipush X4_.here hx rfl (hC e18_80.1) ?_
                      refine XS.icmpNo X4_.here hx rfl (hC e18_80.2.1) rfl (feq (hm6 : ¬ ((own_ch (f (0 : Int32))) = (46 : Int32)))).1 ?_
                      refine XS.iloadN X4_.here hx rfl (hC e18_85.1) rfl ?_
                      refine XS.bipush X4_.here hx rfl (hC e18_85.2.1) ?_
                      refine XS.icmpNo X4_.here hx rfl (hC e18_85.2.2.1) rfl (feq (hm7 : ¬ ((own_ch (f (0 : Int32))) = (95 : Int32)))).1 ?_
                      refine XS.iloadN X4_.here hx rfl (hC e18_85.2.2.2) rfl ?_
                      show Steps pP.tables eE below (T4_.setTop (mkF mM 92 ll3 [(.int (own_ch (f (0 : Int32))))])) tT
                      refine XS.bipush X4_.here hx rfl (hC e18_92.1) ?_
                      refine XS.icmpNo X4_.here hx rfl (hC e18_92.2.1) rfl (feq (hm8 : ¬ ((own_ch (f (0 : Int32))) = (58 : Int32)))).1 ?_
                      refine XS.iloadN X4_.here hx rfl (hC e18_92.2.2.1) rfl ?_
                      refine XS.bipush X4_.here hx rfl (hC e18_92.2.2.2) ?_
                      refine XS.icmpNo X4_.here hx rfl (hC e18_100.1) rfl (teq (hm9 : (own_ch (f (0 : Int32))) = (45 : Int32))).2 ?_
                      refine XS.iconst X4_.here hx rfl (hC e18_80.2.2.1) ?_
                      refine XS.goto X4_.here hx rfl (pc0 := 104) (pc' := 108) rfl (hC e18_80.2.2.2) (by decide) (by decide) ?_
                      exact kK
                    · refine ⟨(0 : Int32), by rw [if_neg hm1, if_pos hm2, if_pos hm3, if_neg hm4, if_pos hm5, if_neg hm6, if_neg hm7, if_neg hm8, if_neg hm9], fun tT kK => ?_⟩
                      refine XS.iloadN X4_.here hx rfl (hC e18_39.2.2.1) rfl ?_
                      refine XS.bipush X4_.here hx rfl (hC e18_39.2.2.2) ?_
                      refine XS.icmpNo X4_.here hx rfl (hC e18_46.1) rfl (flt (hm1 : ¬ ((own_ch (f (0 : Int32))) < (65 : Int32)))).1 ?_
                      refine XS.iloadN X4_.here hx rfl (hC e18_49.1) rfl ?_
                      refine XS.bipush X4_.here hx rfl (hC e18_49.2.1) ?_
                      refine XS.icmpNo X4_.here hx rfl (hC e18_49.2.2.1) rfl (tlt (hm2 : (90 : Int32) < (own_ch (f (0 : Int32))))).2.2.2 ?_
                      refine XS.iloadN X4_.here hx rfl (hC e18_46.2.1) rfl ?_
                      refine XS.bipush X4_.here hx rfl (hC e18_46.2.2.1) ?_
                      refine XS.icmpYes X4_.here hx rfl (pc0 := 58) (pc' := 67) rfl (hC e18_46.2.2.2) rfl (tlt (hm3 : (own_ch (f (0 : Int32))) < (97 : Int32))).1 (by decide) (by decide) ?_
                      refine XS.iloadN X4_.here hx rfl (hC e18_67.1) rfl ?_
                      refine XS.bipush X4_.here hx rfl (hC e18_67.2.1) ?_
                      refine XS.icmpNo X4_.here hx rfl (hC e18_67.2.2.1) rfl (flt (hm4 : ¬ ((own_ch (f (0 : Int32))) < (48 : Int32)))).1 ?_
                      refine XS.iloadN X4_.here hx rfl (hC e18_100.2.2.1) rfl ?_
                      refine XS.bipush X4_.here hx rfl (hC e18_100.2.2.2) ?_
                      refine XS.icmpNo X4_.here hx rfl (hC e18_76.1) rfl (tlt (hm5 : (57 : Int32) < (own_ch (f (0 : Int32))))).2.2.2 ?_
                      refine XS.iloadN X4_.here hx rfl (hC e18_67.2.2.2) rfl ?_
                      refine XS.bipush X4_.here hx rfl (hC e18_80.1) ?_
                      refine XS.icmpNo X4_.here hx rfl (hC e18_80.2.1) rfl (feq (hm6 : ¬ ((own_ch (f (0 : Int32))) = (46 : Int32)))).1 ?_
                      refine XS.iloadN X4_.here hx rfl (hC e18_85.1) rfl ?_
                      refine XS.bipush X4_.here hx rfl (hC e18_85.2.1) ?_
                      refine XS.icmpNo X4_.here hx rfl (hC e18_85.2.2.1) rfl (feq (hm7 : ¬ ((own_ch (f (0 : Int32))) = (95 : Int32)))).1 ?_
                      refine XS.iloadN X4_.here hx rfl (hC e18_85.2.2.2) rfl ?_
                      show Steps pP.tables eE below (T4_.setTop (mkF mM 92 ll3 [(.int (own_ch (f (0 : Int32))))])) tT
                      refine XS.bipush X4_.here hx rfl (hC e18_92.1) ?_
                      refine XS.icmpNo X4_.here hx rfl (hC e18_92.2.1) rfl (feq (hm8 : ¬ ((own_ch (f (0 : Int32))) = (58 : Int32)))).1 ?_
                      refine XS.iloadN X4_.here hx rfl (hC e18_92.2.2.1) rfl ?_
                      refine XS.bipush X4_.here hx rfl (hC e18_92.2.2.2) ?_
                      refine XS.icmpYes X4_.here hx rfl (pc0 := 100) (pc' := 107) rfl (hC e18_100.1) rfl (feq (hm9 : ¬ ((own_ch (f (0 : Int32))) = (45 : Int32)))).2 (by decide) (by decide) ?_
                      refine XS.iconst X4_.here hx rfl (hC e18_100.2.1) ?_
                      exact kK
            · refine ⟨(1 : Int32), by rw [if_neg hm1, if_pos hm2, if_pos hm3, if_neg hm4, if_neg hm5], fun tT kK => ?_⟩
              refine XS.iloadN X4_.here hx rfl (hC e18_39.2.2.1) rfl ?_
              refine XS.bipush X4_.here hx rfl (hC e18_39.2.2.2) ?_
              refine XS.icmpNo X4_.here hx rfl (hC e18_46.1) rfl (flt (hm1 : ¬ ((own_ch (f (0 : Int32))) < (65 : Int32)))).1 ?_
              refine XS.iloadN X4_.here hx rfl (hC e18_49.1) rfl ?_
              refine XS.bipush X4_.here hx rfl (hC e18_49.2.1) ?_
              refine XS.icmpNo X4_.here hx rfl (hC e18_49.2.2.1) rfl (tlt (hm2 : (90 : Int32) < (own_ch (f (0 : Int32))))).2.2.2 ?_
              refine XS.iloadN X4_.here hx rfl (hC e18_46.2.1) rfl ?_
              refine XS.bipush X4_.here hx rfl (hC e18_46.2.2.1) ?_
              refine XS.icmpYes X4_.here hx rfl (pc0 := 58) (pc' := 67) rfl (hC e18_46.2.2.2) rfl (tlt (hm3 : (own_ch (f (0 : Int32))) < (97 : Int32))).1 (by decide) (by decide) ?_
              refine XS.iloadN X4_.here hx rfl (hC e18_67.1) rfl ?_
              refine XS.bipush X4_.here hx rfl (hC e18_67.2.1) ?_
              refine XS.icmpNo X4_.here hx rfl (hC e18_67.2.2.1) rfl (flt (hm4 : ¬ ((own_ch (f (0 : Int32))) < (48 : Int32)))).1 ?_
              refine XS.iloadN X4_.here hx rfl (hC e18_100.2.2.1) rfl ?_
              refine XS.bipush X4_.here hx rfl (hC e18_100.2.2.2) ?_
              refine XS.icmpYes X4_.here hx rfl (pc0 := 76) (pc' := 103) rfl (hC e18_76.1) rfl (flt (hm5 : ¬ ((57 : Int32) < (own_ch (f (0 : Int32)))))).2.2.2 (by decide) (by decide) ?_
              refine XS.iconst X4_.here hx rfl (hC e18_80.2.2.1) ?_
              refine XS.goto X4_.here hx rfl (pc0 := 104) (pc' := 108) rfl (hC e18_80.2.2.2) (by decide) (by decide) ?_
              exact kK
        · by_cases hm4 : (122 : Int32) < (own_ch (f (0 : Int32)))
          · by_cases hm5 : (own_ch (f (0 : Int32))) < (48 : Int32)
            · by_cases hm6 : (own_ch (f (0 : Int32))) = (46 : Int32)
              · refine ⟨(1 : Int32), by rw [if_neg hm1, if_pos hm2, if_neg hm3, if_pos hm4, if_pos hm5, if_pos hm6], fun tT kK => ?_⟩
                refine XS.iloadN X4_.here hx rfl (hC e18_39.2.2.1) rfl ?_
                refine XS.bipush X4_.here hx rfl (hC e18_39.2.2.2) ?_
                refine XS.icmpNo X4_.here hx rfl (hC e18_46.1) rfl (flt (hm1 : ¬ ((own_ch (f (0 : Int32))) < (65 : Int32)))).1 ?_
                refine XS.iloadN X4_.here hx rfl (hC e18_49.1) rfl ?_
                refine XS.bipush X4_.here hx rfl (hC e18_49.2.1) ?_
                refine XS.icmpNo X4_.here hx rfl (hC e18_49.2.2.1) rfl (tlt (hm2 : (90 : Int32) < (own_ch (f (0 : Int32))))).2.2.2 ?_
                refine XS.iloadN X4_.here hx rfl (hC e18_46.2.1) rfl ?_
                refine XS.bipush X4_.here hx rfl (hC e18_46.2.2.1) ?_
                refine XS.icmpNo X4_.here hx rfl (hC e18_46.2.2.2) rfl (flt (hm3 : ¬ ((own_ch (f (0 : Int32))) < (97 : Int32)))).1 ?_
                refine XS.iloadN X4_.here hx rfl (hC e18_76.2.1) rfl ?_
                refine XS.bipush X4_.here hx rfl (hC e18_76.2.2.1) ?_
                refine XS.icmpNo X4_.here hx rfl (hC e18_76.2.2.2) rfl (tlt (hm4 : (122 : Int32) < (own_ch (f (0 : Int32))))).2.2.2 ?_
                refine XS.iloadN X4_.here hx rfl (hC e18_67.1) rfl ?_
                refine XS.bipush X4_.here hx rfl (hC e18_67.2.1) ?_
                refine XS.icmpYes X4_.here hx rfl (pc0 := 70) (pc' := 79) rfl (hC e18_67.2.2.1) rfl (tlt (hm5 : (own_ch (f (0 : Int32))) < (48 : Int32))).1 (by decide) (by decide) ?_
                refine XS.iloadN X4_.here hx rfl (hC e18_67.2.2.2) rfl ?_
                refine XS.bipush X4_.here hx rfl (hC e18_80.1) ?_
                refine XS.icmpYes X4_.here hx rfl (pc0 := 82) (pc' := 103) rfl (hC e18_80.2.1) rfl (teq (hm6 : (own_ch (f (0 : Int32))) = (46 : Int32))).1 (by decide) (by decide) ?_
                refine XS.iconst X4_.here hx rfl (hC e18_80.2.2.1) ?_
                refine XS.goto X4_.here hx rfl (pc0 := 104) (pc' := 108) rfl (hC e18_80.2.2.2) (by decide) (by decide) ?_
                exact kK
              · by_cases hm7 : (own_ch (f (0 : Int32))) = (95 : Int32)
                · refine ⟨(1 : Int32), by rw [if_neg hm1, if_pos hm2, if_neg hm3, if_pos hm4, if_pos hm5, if_neg hm6, if_pos hm7], fun tT kK => ?_⟩
                  refine XS.iloadN X4_.here hx rfl (hC e18_39.2.2.1) rfl ?_
                  refine XS.bipush X4_.here hx rfl (hC e18_39.2.2.2) ?_
                  refine XS.icmpNo X4_.here hx rfl (hC e18_46.1) rfl (flt (hm1 : ¬ ((own_ch (f (0 : Int32))) < (65 : Int32)))).1 ?_
                  refine XS.iloadN X4_.here hx rfl (hC e18_49.1) rfl ?_
                  refine XS.bipush X4_.here hx rfl (hC e18_49.2.1) ?_
                  refine XS.icmpNo X4_.here hx rfl (hC e18_49.2.2.1) rfl (tlt (hm2 : (90 : Int32) < (own_ch (f (0 : Int32))))).2.2.2 ?_
                  refine XS.iloadN X4_.here hx rfl (hC e18_46.2.1) rfl ?_
                  refine XS.bipush X4_.here hx rfl (hC e18_46.2.2.1) ?_
                  refine XS.icmpNo X4_.here hx rfl (hC e18_46.2.2.2) rfl (flt (hm3 : ¬ ((own_ch (f (0 : Int32))) < (97 : Int32)))).1 ?_
                  refine XS.iloadN X4_.here hx rfl (hC e18_76.2.1) rfl ?_
                  refine XS.bipush X4_.here hx rfl (hC e18_76.2.2.1) ?_
                  refine XS.icmpNo X4_.here hx rfl (hC e18_76.2.2.2) rfl (tlt (hm4 : (122 : Int32) < (own_ch (f (0 : Int32))))).2.2.2 ?_
                  refine XS.iloadN X4_.here hx rfl (hC e18_67.1) rfl ?_
                  refine XS.bipush X4_.here hx rfl (hC e18_67.2.1) ?_
                  refine XS.icmpYes X4_.here hx rfl (pc0 := 70) (pc' := 79) rfl (hC e18_67.2.2.1) rfl (tlt (hm5 : (own_ch (f (0 : Int32))) < (48 : Int32))).1 (by decide) (by decide) ?_
                  refine XS.iloadN X4_.here hx rfl (hC e18_67.2.2.2) rfl ?_
                  refine XS.bipush X4_.here hx rfl (hC e18_80.1) ?_
                  refine XS.icmpNo X4_.here hx rfl (hC e18_80.2.1) rfl (feq (hm6 : ¬ ((own_ch (f (0 : Int32))) = (46 : Int32)))).1 ?_
                  refine XS.iloadN X4_.here hx rfl (hC e18_85.1) rfl ?_
                  refine XS.bipush X4_.here hx rfl (hC e18_85.2.1) ?_
                  refine XS.icmpYes X4_.here hx rfl (pc0 := 88) (pc' := 103) rfl (hC e18_85.2.2.1) rfl (teq (hm7 : (own_ch (f (0 : Int32))) = (95 : Int32))).1 (by decide) (by decide) ?_
                  refine XS.iconst X4_.here hx rfl (hC e18_80.2.2.1) ?_
                  show Steps pP.tables eE below (T4_.setTop (mkF mM 104 ll3 [(.int (1 : Int32))])) tT
                  refine XS.goto X4_.here hx rfl (pc0 := 104) (pc' := 108) rfl (hC e18_80.2.2.2) (by decide) (by decide) ?_
                  exact kK
                · by_cases hm8 : (own_ch (f (0 : Int32))) = (58 : Int32)
                  · refine ⟨(1 : Int32), by rw [if_neg hm1, if_pos hm2, if_neg hm3, if_pos hm4, if_pos hm5, if_neg hm6, if_neg hm7, if_pos hm8], fun tT kK => ?_⟩
                    refine XS.iloadN X4_.here hx rfl (hC e18_39.2.2.1) rfl ?_
                    refine XS.bipush X4_.here hx rfl (hC e18_39.2.2.2) ?_
                    refine XS.icmpNo X4_.here hx rfl (hC e18_46.1) rfl (flt (hm1 : ¬ ((own_ch (f (0 : Int32))) < (65 : Int32)))).1 ?_
                    refine XS.iloadN X4_.here hx rfl (hC e18_49.1) rfl ?_
                    refine XS.bipush X4_.here hx rfl (hC e18_49.2.1) ?_
                    refine XS.icmpNo X4_.here hx rfl (hC e18_49.2.2.1) rfl (tlt (hm2 : (90 : Int32) < (own_ch (f (0 : Int32))))).2.2.2 ?_
                    refine XS.iloadN X4_.here hx rfl (hC e18_46.2.1) rfl ?_
                    refine XS.bipush X4_.here hx rfl (hC e18_46.2.2.1) ?_
                    refine XS.icmpNo X4_.here hx rfl (hC e18_46.2.2.2) rfl (flt (hm3 : ¬ ((own_ch (f (0 : Int32))) < (97 : Int32)))).1 ?_
                    refine XS.iloadN X4_.here hx rfl (hC e18_76.2.1) rfl ?_
                    refine XS.bipush X4_.here hx rfl (hC e18_76.2.2.1) ?_
                    refine XS.icmpNo X4_.here hx rfl (hC e18_76.2.2.2) rfl (tlt (hm4 : (122 : Int32) < (own_ch (f (0 : Int32))))).2.2.2 ?_
                    refine XS.iloadN X4_.here hx rfl (hC e18_67.1) rfl ?_
                    refine XS.bipush X4_.here hx rfl (hC e18_67.2.1) ?_
                    refine XS.icmpYes X4_.here hx rfl (pc0 := 70) (pc' := 79) rfl (hC e18_67.2.2.1) rfl (tlt (hm5 : (own_ch (f (0 : Int32))) < (48 : Int32))).1 (by decide) (by decide) ?_
                    refine XS.iloadN X4_.here hx rfl (hC e18_67.2.2.2) rfl ?_
                    refine XS.bipush X4_.here hx rfl (hC e18_80.1) ?_
                    refine XS.icmpNo X4_.here hx rfl (hC e18_80.2.1) rfl (feq (hm6 : ¬ ((own_ch (f (0 : Int32))) = (46 : Int32)))).1 ?_
                    refine XS.iloadN X4_.here hx rfl (hC e18_85.1) rfl ?_
                    refine XS.bipush X4_.here hx rfl (hC e18_85.2.1) ?_
                    refine XS.icmpNo X4_.here hx rfl (hC e18_85.2.2.1) rfl (feq (hm7 : ¬ ((own_ch (f (0 : Int32))) = (95 : Int32)))).1 ?_
                    refine XS.iloadN X4_.here hx rfl (hC e18_85.2.2.2) rfl ?_
                    show Steps pP.tables eE below (T4_.setTop (mkF mM 92 ll3 [(.int (own_ch (f (0 : Int32))))])) tT
                    refine XS.bipush X4_.here hx rfl (hC e18_92.1) ?_
                    refine XS.icmpYes X4_.here hx rfl (pc0 := 94) (pc' := 103) rfl (hC e18_92.2.1) rfl (teq (hm8 : (own_ch (f (0 : Int32))) = (58 : Int32))).1 (by decide) (by decide) ?_
                    refine XS.iconst X4_.here hx rfl (hC e18_80.2.2.1) ?_
                    refine XS.goto X4_.here hx rfl (pc0 := 104) (pc' := 108) rfl (hC e18_80.2.2.2) (by decide) (by decide) ?_
                    exact kK
                  · by_cases hm9 : (own_ch (f (0 : Int32))) = (45 : Int32)
                    · refine ⟨(1 : Int32), by rw [if_neg hm1, if_pos hm2, if_neg hm3, if_pos hm4, if_pos hm5, if_neg hm6, if_neg hm7, if_neg hm8, if_pos hm9], fun tT kK => ?_⟩
                      refine XS.iloadN X4_.here hx rfl (hC e18_39.2.2.1) rfl ?_
                      refine XS.bipush X4_.here hx rfl (hC e18_39.2.2.2) ?_
                      refine XS.icmpNo X4_.here hx rfl (hC e18_46.1) rfl (flt (hm1 : ¬ ((own_ch (f (0 : Int32))) < (65 : Int32)))).1 ?_
                      refine XS.iloadN X4_.here hx rfl (hC e18_49.1) rfl ?_
                      refine XS.bipush X4_.here hx rfl (hC e18_49.2.1) ?_
                      refine XS.icmpNo X4_.here hx rfl (hC e18_49.2.2.1) rfl (tlt (hm2 : (90 : Int32) < (own_ch (f (0 : Int32))))).2.2.2 ?_
                      refine XS.iloadN X4_.here hx rfl (hC e18_46.2.1) rfl ?_
                      refine XS.bipush X4_.here hx rfl (hC e18_46.2.2.1) ?_
                      refine XS.icmpNo X4_.here hx rfl (hC e18_46.2.2.2) rfl (flt (hm3 : ¬ ((own_ch (f (0 : Int32))) < (97 : Int32)))).1 ?_
                      refine XS.iloadN X4_.here hx rfl (hC e18_76.2.1) rfl ?_
                      refine XS.bipush X4_.here hx rfl (hC e18_76.2.2.1) ?_
                      refine XS.icmpNo X4_.here hx rfl (hC e18_76.2.2.2) rfl (tlt (hm4 : (122 : Int32) < (own_ch (f (0 : Int32))))).2.2.2 ?_
                      refine XS.iloadN X4_.here hx rfl (hC e18_67.1) rfl ?_
                      refine XS.bipush X4_.here hx rfl (hC e18_67.2.1) ?_
                      refine XS.icmpYes X4_.here hx rfl (pc0 := 70) (pc' := 79) rfl (hC e18_67.2.2.1) rfl (tlt (hm5 : (own_ch (f (0 : Int32))) < (48 : Int32))).1 (by decide) (by decide) ?_
                      refine XS.iloadN X4_.here hx rfl (hC e18_67.2.2.2) rfl ?_
                      refine XS.bipush X4_.here hx rfl (hC e18_80.1) ?_
                      refine XS.icmpNo X4_.here hx rfl (hC e18_80.2.1) rfl (feq (hm6 : ¬ ((own_ch (f (0 : Int32))) = (46 : Int32)))).1 ?_
                      refine XS.iloadN X4_.here hx rfl (hC e18_85.1) rfl ?_
                      refine XS.bipush X4_.here hx rfl (hC e18_85.2.1) ?_
                      refine XS.icmpNo X4_.here hx rfl (hC e18_85.2.2.1) rfl (feq (hm7 : ¬ ((own_ch (f (0 : Int32))) = (95 : Int32)))).1 ?_
                      refine XS.iloadN X4_.here hx rfl (hC e18_85.2.2.2) rfl ?_
                      show Steps pP.tables eE below (T4_.setTop (mkF mM 92 ll3 [(.int (own_ch (f (0 : Int32))))])) tT
                      refine XS.bipush X4_.here hx rfl (hC e18_92.1) ?_
                      refine XS.icmpNo X4_.here hx rfl (hC e18_92.2.1) rfl (feq (hm8 : ¬ ((own_ch (f (0 : Int32))) = (58 : Int32)))).1 ?_
                      refine XS.iloadN X4_.here hx rfl (hC e18_92.2.2.1) rfl ?_
                      refine XS.bipush X4_.here hx rfl (hC e18_92.2.2.2) ?_
                      refine XS.icmpNo X4_.here hx rfl (hC e18_100.1) rfl (teq (hm9 : (own_ch (f (0 : Int32))) = (45 : Int32))).2 ?_
                      refine XS.iconst X4_.here hx rfl (hC e18_80.2.2.1) ?_
                      refine XS.goto X4_.here hx rfl (pc0 := 104) (pc' := 108) rfl (hC e18_80.2.2.2) (by decide) (by decide) ?_
                      exact kK
                    · refine ⟨(0 : Int32), by rw [if_neg hm1, if_pos hm2, if_neg hm3, if_pos hm4, if_pos hm5, if_neg hm6, if_neg hm7, if_neg hm8, if_neg hm9], fun tT kK => ?_⟩
                      refine XS.iloadN X4_.here hx rfl (hC e18_39.2.2.1) rfl ?_
                      refine XS.bipush X4_.here hx rfl (hC e18_39.2.2.2) ?_
                      refine XS.icmpNo X4_.here hx rfl (hC e18_46.1) rfl (flt (hm1 : ¬ ((own_ch (f (0 : Int32))) < (65 : Int32)))).1 ?_
                      refine XS.iloadN X4_.here hx rfl (hC e18_49.1) rfl ?_
                      refine XS.bipush X4_.here hx rfl (hC e18_49.2.1) ?_
                      refine XS.icmpNo X4_.here hx rfl (hC e18_49.2.2.1) rfl (tlt (hm2 : (90 : Int32) < (own_ch (f (0 : Int32))))).2.2.2 ?_
                      refine XS.iloadN X4_.here hx rfl (hC e18_46.2.1) rfl ?_
                      refine XS.bipush X4_.here hx rfl (hC e18_46.2.2.1) ?_
                      refine XS.icmpNo X4_.here hx rfl (hC e18_46.2.2.2) rfl (flt (hm3 : ¬ ((own_ch (f (0 : Int32))) < (97 : Int32)))).1 ?_
                      refine XS.iloadN X4_.here hx rfl (hC e18_76.2.1) rfl ?_
                      refine XS.bipush X4_.here hx rfl (hC e18_76.2.2.1) ?_
                      refine XS.icmpNo X4_.here hx rfl (hC e18_76.2.2.2) rfl (tlt (hm4 : (122 : Int32) < (own_ch (f (0 : Int32))))).2.2.2 ?_
                      refine XS.iloadN X4_.here hx rfl (hC e18_67.1) rfl ?_
                      refine XS.bipush X4_.here hx rfl (hC e18_67.2.1) ?_
                      refine XS.icmpYes X4_.here hx rfl (pc0 := 70) (pc' := 79) rfl (hC e18_67.2.2.1) rfl (tlt (hm5 : (own_ch (f (0 : Int32))) < (48 : Int32))).1 (by decide) (by decide) ?_
                      refine XS.iloadN X4_.here hx rfl (hC e18_67.2.2.2) rfl ?_
                      refine XS.bipush X4_.here hx rfl (hC e18_80.1) ?_
                      refine XS.icmpNo X4_.here hx rfl (hC e18_80.2.1) rfl (feq (hm6 : ¬ ((own_ch (f (0 : Int32))) = (46 : Int32)))).1 ?_
                      refine XS.iloadN X4_.here hx rfl (hC e18_85.1) rfl ?_
                      refine XS.bipush X4_.here hx rfl (hC e18_85.2.1) ?_
                      refine XS.icmpNo X4_.here hx rfl (hC e18_85.2.2.1) rfl (feq (hm7 : ¬ ((own_ch (f (0 : Int32))) = (95 : Int32)))).1 ?_
                      refine XS.iloadN X4_.here hx rfl (hC e18_85.2.2.2) rfl ?_
                      show Steps pP.tables eE below (T4_.setTop (mkF mM 92 ll3 [(.int (own_ch (f (0 : Int32))))])) tT
                      refine XS.bipush X4_.here hx rfl (hC e18_92.1) ?_
                      refine XS.icmpNo X4_.here hx rfl (hC e18_92.2.1) rfl (feq (hm8 : ¬ ((own_ch (f (0 : Int32))) = (58 : Int32)))).1 ?_
                      refine XS.iloadN X4_.here hx rfl (hC e18_92.2.2.1) rfl ?_
                      refine XS.bipush X4_.here hx rfl (hC e18_92.2.2.2) ?_
                      refine XS.icmpYes X4_.here hx rfl (pc0 := 100) (pc' := 107) rfl (hC e18_100.1) rfl (feq (hm9 : ¬ ((own_ch (f (0 : Int32))) = (45 : Int32)))).2 (by decide) (by decide) ?_
                      refine XS.iconst X4_.here hx rfl (hC e18_100.2.1) ?_
                      exact kK
            · by_cases hm6 : (57 : Int32) < (own_ch (f (0 : Int32)))
              · by_cases hm7 : (own_ch (f (0 : Int32))) = (46 : Int32)
                · refine ⟨(1 : Int32), by rw [if_neg hm1, if_pos hm2, if_neg hm3, if_pos hm4, if_neg hm5, if_pos hm6, if_pos hm7], fun tT kK => ?_⟩
                  refine XS.iloadN X4_.here hx rfl (hC e18_39.2.2.1) rfl ?_
                  refine XS.bipush X4_.here hx rfl (hC e18_39.2.2.2) ?_
                  refine XS.icmpNo X4_.here hx rfl (hC e18_46.1) rfl (flt (hm1 : ¬ ((own_ch (f (0 : Int32))) < (65 : Int32)))).1 ?_
                  refine XS.iloadN X4_.here hx rfl (hC e18_49.1) rfl ?_
                  refine XS.bipush X4_.here hx rfl (hC e18_49.2.1) ?_
                  refine XS.icmpNo X4_.here hx rfl (hC e18_49.2.2.1) rfl (tlt (hm2 : (90 : Int32) < (own_ch (f (0 : Int32))))).2.2.2 ?_
                  refine XS.iloadN X4_.here hx rfl (hC e18_46.2.1) rfl ?_
                  refine XS.bipush X4_.here hx rfl (hC e18_46.2.2.1) ?_
                  refine XS.icmpNo X4_.here hx rfl (hC e18_46.2.2.2) rfl (flt (hm3 : ¬ ((own_ch (f (0 : Int32))) < (97 : Int32)))).1 ?_
                  refine XS.iloadN X4_.here hx rfl (hC e18_76.2.1) rfl ?_
                  refine XS.bipush X4_.here hx rfl (hC e18_76.2.2.1) ?_
                  refine XS.icmpNo X4_.here hx rfl (hC e18_76.2.2.2) rfl (tlt (hm4 : (122 : Int32) < (own_ch (f (0 : Int32))))).2.2.2 ?_
                  refine XS.iloadN X4_.here hx rfl (hC e18_67.1) rfl ?_
                  refine XS.bipush X4_.here hx rfl (hC e18_67.2.1) ?_
                  refine XS.icmpNo X4_.here hx rfl (hC e18_67.2.2.1) rfl (flt (hm5 : ¬ ((own_ch (f (0 : Int32))) < (48 : Int32)))).1 ?_
                  refine XS.iloadN X4_.here hx rfl (hC e18_100.2.2.1) rfl ?_
                  refine XS.bipush X4_.here hx rfl (hC e18_100.2.2.2) ?_
                  refine XS.icmpNo X4_.here hx rfl (hC e18_76.1) rfl (tlt (hm6 : (57 : Int32) < (own_ch (f (0 : Int32))))).2.2.2 ?_
                  refine XS.iloadN X4_.here hx rfl (hC e18_67.2.2.2) rfl ?_
                  refine XS.bipush X4_.here hx rfl (hC e18_80.1) ?_
                  refine XS.icmpYes X4_.here hx rfl (pc0 := 82) (pc' := 103) rfl (hC e18_80.2.1) rfl (teq (hm7 : (own_ch (f (0 : Int32))) = (46 : Int32))).1 (by decide) (by decide) ?_
                  refine XS.iconst X4_.here hx rfl (hC e18_80.2.2.1) ?_
                  show Steps pP.tables eE below (T4_.setTop (mkF mM 104 ll3 [(.int (1 : Int32))])) tT
                  refine XS.goto X4_.here hx rfl (pc0 := 104) (pc' := 108) rfl (hC e18_80.2.2.2) (by decide) (by decide) ?_
                  exact kK
                · by_cases hm8 : (own_ch (f (0 : Int32))) = (95 : Int32)
                  · refine ⟨(1 : Int32), by rw [if_neg hm1, if_pos hm2, if_neg hm3, if_pos hm4, if_neg hm5, if_pos hm6, if_neg hm7, if_pos hm8], fun tT kK => ?_⟩
                    refine XS.iloadN X4_.here hx rfl (hC e18_39.2.2.1) rfl ?_
                    refine XS.bipush X4_.here hx rfl (hC e18_39.2.2.2) ?_
                    refine XS.icmpNo X4_.here hx rfl (hC e18_46.1) rfl (flt (hm1 : ¬ ((own_ch (f (0 : Int32))) < (65 : Int32)))).1 ?_
                    refine XS.iloadN X4_.here hx rfl (hC e18_49.1) rfl ?_
                    refine XS.bipush X4_.here hx rfl (hC e18_49.2.1) ?_
                    refine XS.icmpNo X4_.here hx rfl (hC e18_49.2.2.1) rfl (tlt (hm2 : (90 : Int32) < (own_ch (f (0 : Int32))))).2.2.2 ?_
                    refine XS.iloadN X4_.here hx rfl (hC e18_46.2.1) rfl ?_
                    refine XS.bipush X4_.here hx rfl (hC e18_46.2.2.1) ?_
                    refine XS.icmpNo X4_.here hx rfl (hC e18_46.2.2.2) rfl (flt (hm3 : ¬ ((own_ch (f (0 : Int32))) < (97 : Int32)))).1 ?_
                    refine XS.iloadN X4_.here hx rfl (hC e18_76.2.1) rfl ?_
                    refine XS.bipush X4_.here hx rfl (hC e18_76.2.2.1) ?_
                    refine XS.icmpNo X4_.here hx rfl (hC e18_76.2.2.2) rfl (tlt (hm4 : (122 : Int32) < (own_ch (f (0 : Int32))))).2.2.2 ?_
                    refine XS.iloadN X4_.here hx rfl (hC e18_67.1) rfl ?_
                    refine XS.bipush X4_.here hx rfl (hC e18_67.2.1) ?_
                    refine XS.icmpNo X4_.here hx rfl (hC e18_67.2.2.1) rfl (flt (hm5 : ¬ ((own_ch (f (0 : Int32))) < (48 : Int32)))).1 ?_
                    refine XS.iloadN X4_.here hx rfl (hC e18_100.2.2.1) rfl ?_
                    refine XS.bipush X4_.here hx rfl (hC e18_100.2.2.2) ?_
                    refine XS.icmpNo X4_.here hx rfl (hC e18_76.1) rfl (tlt (hm6 : (57 : Int32) < (own_ch (f (0 : Int32))))).2.2.2 ?_
                    refine XS.iloadN X4_.here hx rfl (hC e18_67.2.2.2) rfl ?_
                    refine XS.bipush X4_.here hx rfl (hC e18_80.1) ?_
                    refine XS.icmpNo X4_.here hx rfl (hC e18_80.2.1) rfl (feq (hm7 : ¬ ((own_ch (f (0 : Int32))) = (46 : Int32)))).1 ?_
                    refine XS.iloadN X4_.here hx rfl (hC e18_85.1) rfl ?_
                    show Steps pP.tables eE below (T4_.setTop (mkF mM 86 ll3 [(.int (own_ch (f (0 : Int32))))])) tT
                    refine XS.bipush X4_.here hx rfl (hC e18_85.2.1) ?_
                    refine XS.icmpYes X4_.here hx rfl (pc0 := 88) (pc' := 103) rfl (hC e18_85.2.2.1) rfl (teq (hm8 : (own_ch (f (0 : Int32))) = (95 : Int32))).1 (by decide) (by decide) ?_
                    refine XS.iconst X4_.here hx rfl (hC e18_80.2.2.1) ?_
                    refine XS.goto X4_.here hx rfl (pc0 := 104) (pc' := 108) rfl (hC e18_80.2.2.2) (by decide) (by decide) ?_
                    exact kK
                  · by_cases hm9 : (own_ch (f (0 : Int32))) = (58 : Int32)
                    · refine ⟨(1 : Int32), by rw [if_neg hm1, if_pos hm2, if_neg hm3, if_pos hm4, if_neg hm5, if_pos hm6, if_neg hm7, if_neg hm8, if_pos hm9], fun tT kK => ?_⟩
                      refine XS.iloadN X4_.here hx rfl (hC e18_39.2.2.1) rfl ?_
                      refine XS.bipush X4_.here hx rfl (hC e18_39.2.2.2) ?_
                      refine XS.icmpNo X4_.here hx rfl (hC e18_46.1) rfl (flt (hm1 : ¬ ((own_ch (f (0 : Int32))) < (65 : Int32)))).1 ?_
                      refine XS.iloadN X4_.here hx rfl (hC e18_49.1) rfl ?_
                      refine XS.bipush X4_.here hx rfl (hC e18_49.2.1) ?_
                      refine XS.icmpNo X4_.here hx rfl (hC e18_49.2.2.1) rfl (tlt (hm2 : (90 : Int32) < (own_ch (f (0 : Int32))))).2.2.2 ?_
                      refine XS.iloadN X4_.here hx rfl (hC e18_46.2.1) rfl ?_
                      refine XS.bipush X4_.here hx rfl (hC e18_46.2.2.1) ?_
                      refine XS.icmpNo X4_.here hx rfl (hC e18_46.2.2.2) rfl (flt (hm3 : ¬ ((own_ch (f (0 : Int32))) < (97 : Int32)))).1 ?_
                      refine XS.iloadN X4_.here hx rfl (hC e18_76.2.1) rfl ?_
                      refine XS.bipush X4_.here hx rfl (hC e18_76.2.2.1) ?_
                      refine XS.icmpNo X4_.here hx rfl (hC e18_76.2.2.2) rfl (tlt (hm4 : (122 : Int32) < (own_ch (f (0 : Int32))))).2.2.2 ?_
                      refine XS.iloadN X4_.here hx rfl (hC e18_67.1) rfl ?_
                      refine XS.bipush X4_.here hx rfl (hC e18_67.2.1) ?_
                      refine XS.icmpNo X4_.here hx rfl (hC e18_67.2.2.1) rfl (flt (hm5 : ¬ ((own_ch (f (0 : Int32))) < (48 : Int32)))).1 ?_
                      refine XS.iloadN X4_.here hx rfl (hC e18_100.2.2.1) rfl ?_
                      refine XS.bipush X4_.here hx rfl (hC e18_100.2.2.2) ?_
                      refine XS.icmpNo X4_.here hx rfl (hC e18_76.1) rfl (tlt (hm6 : (57 : Int32) < (own_ch (f (0 : Int32))))).2.2.2 ?_
                      refine XS.iloadN X4_.here hx rfl (hC e18_67.2.2.2) rfl ?_
                      refine XS.bipush X4_.here hx rfl (hC e18_80.1) ?_
                      refine XS.icmpNo X4_.here hx rfl (hC e18_80.2.1) rfl (feq (hm7 : ¬ ((own_ch (f (0 : Int32))) = (46 : Int32)))).1 ?_
                      refine XS.iloadN X4_.here hx rfl (hC e18_85.1) rfl ?_
                      show Steps pP.tables eE below (T4_.setTop (mkF mM 86 ll3 [(.int (own_ch (f (0 : Int32))))])) tT
                      refine XS.bipush X4_.here hx rfl (hC e18_85.2.1) ?_
                      refine XS.icmpNo X4_.here hx rfl (hC e18_85.2.2.1) rfl (feq (hm8 : ¬ ((own_ch (f (0 : Int32))) = (95 : Int32)))).1 ?_
                      refine XS.iloadN X4_.here hx rfl (hC e18_85.2.2.2) rfl ?_
                      refine XS.bipush X4_.here hx rfl (hC e18_92.1) ?_
                      refine XS.icmpYes X4_.here hx rfl (pc0 := 94) (pc' := 103) rfl (hC e18_92.2.1) rfl (teq (hm9 : (own_ch (f (0 : Int32))) = (58 : Int32))).1 (by decide) (by decide) ?_
                      refine XS.iconst X4_.here hx rfl (hC e18_80.2.2.1) ?_
                      refine XS.goto X4_.here hx rfl (pc0 := 104) (pc' := 108) rfl (hC e18_80.2.2.2) (by decide) (by decide) ?_
                      exact kK
                    · by_cases hm10 : (own_ch (f (0 : Int32))) = (45 : Int32)
                      · refine ⟨(1 : Int32), by rw [if_neg hm1, if_pos hm2, if_neg hm3, if_pos hm4, if_neg hm5, if_pos hm6, if_neg hm7, if_neg hm8, if_neg hm9, if_pos hm10], fun tT kK => ?_⟩
                        refine XS.iloadN X4_.here hx rfl (hC e18_39.2.2.1) rfl ?_
                        refine XS.bipush X4_.here hx rfl (hC e18_39.2.2.2) ?_
                        refine XS.icmpNo X4_.here hx rfl (hC e18_46.1) rfl (flt (hm1 : ¬ ((own_ch (f (0 : Int32))) < (65 : Int32)))).1 ?_
                        refine XS.iloadN X4_.here hx rfl (hC e18_49.1) rfl ?_
                        refine XS.bipush X4_.here hx rfl (hC e18_49.2.1) ?_
                        refine XS.icmpNo X4_.here hx rfl (hC e18_49.2.2.1) rfl (tlt (hm2 : (90 : Int32) < (own_ch (f (0 : Int32))))).2.2.2 ?_
                        refine XS.iloadN X4_.here hx rfl (hC e18_46.2.1) rfl ?_
                        refine XS.bipush X4_.here hx rfl (hC e18_46.2.2.1) ?_
                        refine XS.icmpNo X4_.here hx rfl (hC e18_46.2.2.2) rfl (flt (hm3 : ¬ ((own_ch (f (0 : Int32))) < (97 : Int32)))).1 ?_
                        refine XS.iloadN X4_.here hx rfl (hC e18_76.2.1) rfl ?_
                        refine XS.bipush X4_.here hx rfl (hC e18_76.2.2.1) ?_
                        refine XS.icmpNo X4_.here hx rfl (hC e18_76.2.2.2) rfl (tlt (hm4 : (122 : Int32) < (own_ch (f (0 : Int32))))).2.2.2 ?_
                        refine XS.iloadN X4_.here hx rfl (hC e18_67.1) rfl ?_
                        refine XS.bipush X4_.here hx rfl (hC e18_67.2.1) ?_
                        refine XS.icmpNo X4_.here hx rfl (hC e18_67.2.2.1) rfl (flt (hm5 : ¬ ((own_ch (f (0 : Int32))) < (48 : Int32)))).1 ?_
                        refine XS.iloadN X4_.here hx rfl (hC e18_100.2.2.1) rfl ?_
                        refine XS.bipush X4_.here hx rfl (hC e18_100.2.2.2) ?_
                        refine XS.icmpNo X4_.here hx rfl (hC e18_76.1) rfl (tlt (hm6 : (57 : Int32) < (own_ch (f (0 : Int32))))).2.2.2 ?_
                        refine XS.iloadN X4_.here hx rfl (hC e18_67.2.2.2) rfl ?_
                        refine XS.bipush X4_.here hx rfl (hC e18_80.1) ?_
                        refine XS.icmpNo X4_.here hx rfl (hC e18_80.2.1) rfl (feq (hm7 : ¬ ((own_ch (f (0 : Int32))) = (46 : Int32)))).1 ?_
                        refine XS.iloadN X4_.here hx rfl (hC e18_85.1) rfl ?_
                        show Steps pP.tables eE below (T4_.setTop (mkF mM 86 ll3 [(.int (own_ch (f (0 : Int32))))])) tT
                        refine XS.bipush X4_.here hx rfl (hC e18_85.2.1) ?_
                        refine XS.icmpNo X4_.here hx rfl (hC e18_85.2.2.1) rfl (feq (hm8 : ¬ ((own_ch (f (0 : Int32))) = (95 : Int32)))).1 ?_
                        refine XS.iloadN X4_.here hx rfl (hC e18_85.2.2.2) rfl ?_
                        refine XS.bipush X4_.here hx rfl (hC e18_92.1) ?_
                        refine XS.icmpNo X4_.here hx rfl (hC e18_92.2.1) rfl (feq (hm9 : ¬ ((own_ch (f (0 : Int32))) = (58 : Int32)))).1 ?_
                        refine XS.iloadN X4_.here hx rfl (hC e18_92.2.2.1) rfl ?_
                        refine XS.bipush X4_.here hx rfl (hC e18_92.2.2.2) ?_
                        refine XS.icmpNo X4_.here hx rfl (hC e18_100.1) rfl (teq (hm10 : (own_ch (f (0 : Int32))) = (45 : Int32))).2 ?_
                        refine XS.iconst X4_.here hx rfl (hC e18_80.2.2.1) ?_
                        refine XS.goto X4_.here hx rfl (pc0 := 104) (pc' := 108) rfl (hC e18_80.2.2.2) (by decide) (by decide) ?_
                        exact kK
                      · refine ⟨(0 : Int32), by rw [if_neg hm1, if_pos hm2, if_neg hm3, if_pos hm4, if_neg hm5, if_pos hm6, if_neg hm7, if_neg hm8, if_neg hm9, if_neg hm10], fun tT kK => ?_⟩
                        refine XS.iloadN X4_.here hx rfl (hC e18_39.2.2.1) rfl ?_
                        refine XS.bipush X4_.here hx rfl (hC e18_39.2.2.2) ?_
                        refine XS.icmpNo X4_.here hx rfl (hC e18_46.1) rfl (flt (hm1 : ¬ ((own_ch (f (0 : Int32))) < (65 : Int32)))).1 ?_
                        refine XS.iloadN X4_.here hx rfl (hC e18_49.1) rfl ?_
                        refine XS.bipush X4_.here hx rfl (hC e18_49.2.1) ?_
                        refine XS.icmpNo X4_.here hx rfl (hC e18_49.2.2.1) rfl (tlt (hm2 : (90 : Int32) < (own_ch (f (0 : Int32))))).2.2.2 ?_
                        refine XS.iloadN X4_.here hx rfl (hC e18_46.2.1) rfl ?_
                        refine XS.bipush X4_.here hx rfl (hC e18_46.2.2.1) ?_
                        refine XS.icmpNo X4_.here hx rfl (hC e18_46.2.2.2) rfl (flt (hm3 : ¬ ((own_ch (f (0 : Int32))) < (97 : Int32)))).1 ?_
                        refine XS.iloadN X4_.here hx rfl (hC e18_76.2.1) rfl ?_
                        refine XS.bipush X4_.here hx rfl (hC e18_76.2.2.1) ?_
                        refine XS.icmpNo X4_.here hx rfl (hC e18_76.2.2.2) rfl (tlt (hm4 : (122 : Int32) < (own_ch (f (0 : Int32))))).2.2.2 ?_
                        refine XS.iloadN X4_.here hx rfl (hC e18_67.1) rfl ?_
                        refine XS.bipush X4_.here hx rfl (hC e18_67.2.1) ?_
                        refine XS.icmpNo X4_.here hx rfl (hC e18_67.2.2.1) rfl (flt (hm5 : ¬ ((own_ch (f (0 : Int32))) < (48 : Int32)))).1 ?_
                        refine XS.iloadN X4_.here hx rfl (hC e18_100.2.2.1) rfl ?_
                        refine XS.bipush X4_.here hx rfl (hC e18_100.2.2.2) ?_
                        refine XS.icmpNo X4_.here hx rfl (hC e18_76.1) rfl (tlt (hm6 : (57 : Int32) < (own_ch (f (0 : Int32))))).2.2.2 ?_
                        refine XS.iloadN X4_.here hx rfl (hC e18_67.2.2.2) rfl ?_
                        refine XS.bipush X4_.here hx rfl (hC e18_80.1) ?_
                        refine XS.icmpNo X4_.here hx rfl (hC e18_80.2.1) rfl (feq (hm7 : ¬ ((own_ch (f (0 : Int32))) = (46 : Int32)))).1 ?_
                        refine XS.iloadN X4_.here hx rfl (hC e18_85.1) rfl ?_
                        show Steps pP.tables eE below (T4_.setTop (mkF mM 86 ll3 [(.int (own_ch (f (0 : Int32))))])) tT
                        refine XS.bipush X4_.here hx rfl (hC e18_85.2.1) ?_
                        refine XS.icmpNo X4_.here hx rfl (hC e18_85.2.2.1) rfl (feq (hm8 : ¬ ((own_ch (f (0 : Int32))) = (95 : Int32)))).1 ?_
                        refine XS.iloadN X4_.here hx rfl (hC e18_85.2.2.2) rfl ?_
                        refine XS.bipush X4_.here hx rfl (hC e18_92.1) ?_
                        refine XS.icmpNo X4_.here hx rfl (hC e18_92.2.1) rfl (feq (hm9 : ¬ ((own_ch (f (0 : Int32))) = (58 : Int32)))).1 ?_
                        refine XS.iloadN X4_.here hx rfl (hC e18_92.2.2.1) rfl ?_
                        refine XS.bipush X4_.here hx rfl (hC e18_92.2.2.2) ?_
                        refine XS.icmpYes X4_.here hx rfl (pc0 := 100) (pc' := 107) rfl (hC e18_100.1) rfl (feq (hm10 : ¬ ((own_ch (f (0 : Int32))) = (45 : Int32)))).2 (by decide) (by decide) ?_
                        refine XS.iconst X4_.here hx rfl (hC e18_100.2.1) ?_
                        exact kK
              · refine ⟨(1 : Int32), by rw [if_neg hm1, if_pos hm2, if_neg hm3, if_pos hm4, if_neg hm5, if_neg hm6], fun tT kK => ?_⟩
                refine XS.iloadN X4_.here hx rfl (hC e18_39.2.2.1) rfl ?_
                refine XS.bipush X4_.here hx rfl (hC e18_39.2.2.2) ?_
                refine XS.icmpNo X4_.here hx rfl (hC e18_46.1) rfl (flt (hm1 : ¬ ((own_ch (f (0 : Int32))) < (65 : Int32)))).1 ?_
                refine XS.iloadN X4_.here hx rfl (hC e18_49.1) rfl ?_
                refine XS.bipush X4_.here hx rfl (hC e18_49.2.1) ?_
                refine XS.icmpNo X4_.here hx rfl (hC e18_49.2.2.1) rfl (tlt (hm2 : (90 : Int32) < (own_ch (f (0 : Int32))))).2.2.2 ?_
                refine XS.iloadN X4_.here hx rfl (hC e18_46.2.1) rfl ?_
                refine XS.bipush X4_.here hx rfl (hC e18_46.2.2.1) ?_
                refine XS.icmpNo X4_.here hx rfl (hC e18_46.2.2.2) rfl (flt (hm3 : ¬ ((own_ch (f (0 : Int32))) < (97 : Int32)))).1 ?_
                refine XS.iloadN X4_.here hx rfl (hC e18_76.2.1) rfl ?_
                refine XS.bipush X4_.here hx rfl (hC e18_76.2.2.1) ?_
                refine XS.icmpNo X4_.here hx rfl (hC e18_76.2.2.2) rfl (tlt (hm4 : (122 : Int32) < (own_ch (f (0 : Int32))))).2.2.2 ?_
                refine XS.iloadN X4_.here hx rfl (hC e18_67.1) rfl ?_
                refine XS.bipush X4_.here hx rfl (hC e18_67.2.1) ?_
                refine XS.icmpNo X4_.here hx rfl (hC e18_67.2.2.1) rfl (flt (hm5 : ¬ ((own_ch (f (0 : Int32))) < (48 : Int32)))).1 ?_
                refine XS.iloadN X4_.here hx rfl (hC e18_100.2.2.1) rfl ?_
                refine XS.bipush X4_.here hx rfl (hC e18_100.2.2.2) ?_
                refine XS.icmpYes X4_.here hx rfl (pc0 := 76) (pc' := 103) rfl (hC e18_76.1) rfl (flt (hm6 : ¬ ((57 : Int32) < (own_ch (f (0 : Int32)))))).2.2.2 (by decide) (by decide) ?_
                refine XS.iconst X4_.here hx rfl (hC e18_80.2.2.1) ?_
                refine XS.goto X4_.here hx rfl (pc0 := 104) (pc' := 108) rfl (hC e18_80.2.2.2) (by decide) (by decide) ?_
                exact kK
          · refine ⟨(1 : Int32), by rw [if_neg hm1, if_pos hm2, if_neg hm3, if_neg hm4], fun tT kK => ?_⟩
            refine XS.iloadN X4_.here hx rfl (hC e18_39.2.2.1) rfl ?_
            refine XS.bipush X4_.here hx rfl (hC e18_39.2.2.2) ?_
            refine XS.icmpNo X4_.here hx rfl (hC e18_46.1) rfl (flt (hm1 : ¬ ((own_ch (f (0 : Int32))) < (65 : Int32)))).1 ?_
            refine XS.iloadN X4_.here hx rfl (hC e18_49.1) rfl ?_
            refine XS.bipush X4_.here hx rfl (hC e18_49.2.1) ?_
            refine XS.icmpNo X4_.here hx rfl (hC e18_49.2.2.1) rfl (tlt (hm2 : (90 : Int32) < (own_ch (f (0 : Int32))))).2.2.2 ?_
            refine XS.iloadN X4_.here hx rfl (hC e18_46.2.1) rfl ?_
            refine XS.bipush X4_.here hx rfl (hC e18_46.2.2.1) ?_
            refine XS.icmpNo X4_.here hx rfl (hC e18_46.2.2.2) rfl (flt (hm3 : ¬ ((own_ch (f (0 : Int32))) < (97 : Int32)))).1 ?_
            refine XS.iloadN X4_.here hx rfl (hC e18_76.2.1) rfl ?_
            refine XS.bipush X4_.here hx rfl (hC e18_76.2.2.1) ?_
            refine XS.icmpYes X4_.here hx rfl (pc0 := 64) (pc' := 103) rfl (hC e18_76.2.2.2) rfl (flt (hm4 : ¬ ((122 : Int32) < (own_ch (f (0 : Int32)))))).2.2.2 (by decide) (by decide) ?_
            refine XS.iconst X4_.here hx rfl (hC e18_80.2.2.1) ?_
            refine XS.goto X4_.here hx rfl (pc0 := 104) (pc' := 108) rfl (hC e18_80.2.2.2) (by decide) (by decide) ?_
            exact kK
      · refine ⟨(1 : Int32), by rw [if_neg hm1, if_neg hm2], fun tT kK => ?_⟩
        refine XS.iloadN X4_.here hx rfl (hC e18_39.2.2.1) rfl ?_
        refine XS.bipush X4_.here hx rfl (hC e18_39.2.2.2) ?_
        refine XS.icmpNo X4_.here hx rfl (hC e18_46.1) rfl (flt (hm1 : ¬ ((own_ch (f (0 : Int32))) < (65 : Int32)))).1 ?_
        refine XS.iloadN X4_.here hx rfl (hC e18_49.1) rfl ?_
        refine XS.bipush X4_.here hx rfl (hC e18_49.2.1) ?_
        refine XS.icmpYes X4_.here hx rfl (pc0 := 52) (pc' := 103) rfl (hC e18_49.2.2.1) rfl (flt (hm2 : ¬ ((90 : Int32) < (own_ch (f (0 : Int32)))))).2.2.2 (by decide) (by decide) ?_
        refine XS.iconst X4_.here hx rfl (hC e18_80.2.2.1) ?_
        refine XS.goto X4_.here hx rfl (pc0 := 104) (pc' := 108) rfl (hC e18_80.2.2.2) (by decide) (by decide) ?_
        exact kK
  refine own_fin st5_ ?_
  rcases (hv0.trans ok0 : v0 = (1 : Int32)) with rfl
  · let ll4 : Array Slot := #[vR a, vI 1, vI 1, vI (own_ch (f (0 : Int32)))]
    refine jg T4_ mM 31 ll4 [(.ref a), (.int (1 : Int32))] (fun tT kK => ?_) ?_
    · refine XS.istoreN X4_.here hx rfl (hC e18_49.2.2.2) rfl (l' := ll3) rfl ?_
      refine XS.iinc X4_.here hx rfl (hC e18_109.1) rfl (l' := ll4) rfl ?_
      refine XS.goto X4_.here hx rfl (pc0 := 112) (pc' := 25) rfl (hC e18_109.2.1) (by decide) (by decide) ?_
      refine XS.iloadN X4_.here hx rfl (hC e18_25.1) rfl ?_
      refine XS.ifNo X4_.here hx rfl (hC e18_25.2.1) rfl ((if0 _ _).trans (feq ((by decide) : ¬ ((1 : Int32) = (0 : Int32)))).1) ?_
      refine XS.iloadN X4_.here hx rfl (hC e18_25.2.2.1) rfl ?_
      refine XS.aloadN X4_.here hx rfl (hC e18_25.2.2.2) rfl rfl ?_
      exact kK
    refine jv X4_ hx hZ (y := jy1) hown (jk hw 87 rfl) (jk hw 88 rfl) (jk hw 90 rfl) (jk hw 89 rfl) (jk hw 91 rfl) (jk hw 11 rfl) (rm_slen lL Z a0 hw [] a t (2 : Int32) f cs h0 n0 (Nat.le_trans Z0 K0.1) Oo Scs ncs E Fv Fc Tt) E p4__0 own_pd12 [] [(.int (1 : Int32))] (hC e18_31.1) rfl rfl (by rw [hml]; rfl) (by decide) 1 (Nat.le_of_eq rfl) (by decide) (by decide) (by decide : 0 + 0 ≤ _) (by decide : 0 + 0 ≤ _) fun vv6_ T6_ L6_ X6_ hQ6_ => ?_
    obtain ⟨rfl, N6_q, p6__0⟩ := hQ6_
    have N6_ := Fr.app N4_ N6_q
    refine jg T6_ mM 39 ll4 [(.int (1 : Int32)), (.ref a)] (fun tT kK => ?_) ?_
    · refine XS.icmpNo X6_.here hx rfl (hC e18_31.2.1) rfl (tlt ((by decide) : (1 : Int32) < (2 : Int32))).2.1 ?_
      refine XS.aloadN X6_.here hx rfl (hC e18_31.2.2.1) rfl rfl ?_
      refine XS.iloadN X6_.here hx rfl (hC e18_31.2.2.2) rfl ?_
      exact kK
    refine jv X6_ hx hZ (y := jy6) hown (jk hw 97 rfl) (jk hw 19 rfl) (jk hw 21 rfl) (jk hw 20 rfl) (jk hw 22 rfl) (jk hw 11 rfl) (rm_char lL Z a0 hw [] a (1 : Int32) t (2 : Int32) f cs fv h0 n0 (Nat.le_trans Z0 K0.1) Oo Scs ncs Sfv rfv E Fv Fc Tt (by decide) (by decide)) E p6__0 own_pd14 [(.int (1 : Int32))] [] (hC e18_39.1) rfl rfl (by rw [hml]; rfl) (by decide) 0 (Nat.le_of_eq rfl) (by decide) (by decide) (by decide : 0 + 0 ≤ _) (by decide : 0 + 0 ≤ _) fun vv7_ T7_ L7_ X7_ hQ7_ => ?_
    obtain ⟨rfl, N7_q, p7__0⟩ := hQ7_
    have N7_ := Fr.app N6_ N7_q
    let ll5 : Array Slot := #[vR a, vI 1, vI 1, vI (own_ch (f (1 : Int32)))]
    refine jg T7_ mM 43 ll5 [] (fun tT kK => ?_) ?_
    · refine XS.istoreN X7_.here hx rfl (hC e18_39.2.1) rfl (l' := ll5) rfl ?_
      exact kK
    obtain ⟨v1, hv1, st8_⟩ : ∃ v1 : Int32, (v1 = (if (own_ch (f (1 : Int32))) < (65 : Int32) then (if (own_ch (f (1 : Int32))) < (97 : Int32) then (if (own_ch (f (1 : Int32))) < (48 : Int32) then (if (own_ch (f (1 : Int32))) = (46 : Int32) then (1 : Int32) else (if (own_ch (f (1 : Int32))) = (95 : Int32) then (1 : Int32) else (if (own_ch (f (1 : Int32))) = (58 : Int32) then (1 : Int32) else (if (own_ch (f (1 : Int32))) = (45 : Int32) then (1 : Int32) else (0 : Int32))))) else (if (57 : Int32) < (own_ch (f (1 : Int32))) then (if (own_ch (f (1 : Int32))) = (46 : Int32) then (1 : Int32) else (if (own_ch (f (1 : Int32))) = (95 : Int32) then (1 : Int32) else (if (own_ch (f (1 : Int32))) = (58 : Int32) then (1 : Int32) else (if (own_ch (f (1 : Int32))) = (45 : Int32) then (1 : Int32) else (0 : Int32))))) else (1 : Int32))) else (if (122 : Int32) < (own_ch (f (1 : Int32))) then (if (own_ch (f (1 : Int32))) < (48 : Int32) then (if (own_ch (f (1 : Int32))) = (46 : Int32) then (1 : Int32) else (if (own_ch (f (1 : Int32))) = (95 : Int32) then (1 : Int32) else (if (own_ch (f (1 : Int32))) = (58 : Int32) then (1 : Int32) else (if (own_ch (f (1 : Int32))) = (45 : Int32) then (1 : Int32) else (0 : Int32))))) else (if (57 : Int32) < (own_ch (f (1 : Int32))) then (if (own_ch (f (1 : Int32))) = (46 : Int32) then (1 : Int32) else (if (own_ch (f (1 : Int32))) = (95 : Int32) then (1 : Int32) else (if (own_ch (f (1 : Int32))) = (58 : Int32) then (1 : Int32) else (if (own_ch (f (1 : Int32))) = (45 : Int32) then (1 : Int32) else (0 : Int32))))) else (1 : Int32))) else (1 : Int32))) else (if (90 : Int32) < (own_ch (f (1 : Int32))) then (if (own_ch (f (1 : Int32))) < (97 : Int32) then (if (own_ch (f (1 : Int32))) < (48 : Int32) then (if (own_ch (f (1 : Int32))) = (46 : Int32) then (1 : Int32) else (if (own_ch (f (1 : Int32))) = (95 : Int32) then (1 : Int32) else (if (own_ch (f (1 : Int32))) = (58 : Int32) then (1 : Int32) else (if (own_ch (f (1 : Int32))) = (45 : Int32) then (1 : Int32) else (0 : Int32))))) else (if (57 : Int32) < (own_ch (f (1 : Int32))) then (if (own_ch (f (1 : Int32))) = (46 : Int32) then (1 : Int32) else (if (own_ch (f (1 : Int32))) = (95 : Int32) then (1 : Int32) else (if (own_ch (f (1 : Int32))) = (58 : Int32) then (1 : Int32) else (if (own_ch (f (1 : Int32))) = (45 : Int32) then (1 : Int32) else (0 : Int32))))) else (1 : Int32))) else (if (122 : Int32) < (own_ch (f (1 : Int32))) then (if (own_ch (f (1 : Int32))) < (48 : Int32) then (if (own_ch (f (1 : Int32))) = (46 : Int32) then (1 : Int32) else (if (own_ch (f (1 : Int32))) = (95 : Int32) then (1 : Int32) else (if (own_ch (f (1 : Int32))) = (58 : Int32) then (1 : Int32) else (if (own_ch (f (1 : Int32))) = (45 : Int32) then (1 : Int32) else (0 : Int32))))) else (if (57 : Int32) < (own_ch (f (1 : Int32))) then (if (own_ch (f (1 : Int32))) = (46 : Int32) then (1 : Int32) else (if (own_ch (f (1 : Int32))) = (95 : Int32) then (1 : Int32) else (if (own_ch (f (1 : Int32))) = (58 : Int32) then (1 : Int32) else (if (own_ch (f (1 : Int32))) = (45 : Int32) then (1 : Int32) else (0 : Int32))))) else (1 : Int32))) else (1 : Int32))) else (1 : Int32)))) ∧ ∀ tT, Steps pP.tables eE below (T7_.setTop (mkF mM 108 #[.val (.ref a), .val (.int (1 : Int32)), .val (.int (1 : Int32)), .val (.int (own_ch (f (1 : Int32))))] [(.int v1)])) tT → Steps pP.tables eE below (T7_.setTop (mkF mM 43 #[.val (.ref a), .val (.int (1 : Int32)), .val (.int (1 : Int32)), .val (.int (own_ch (f (1 : Int32))))] [])) tT := by
      by_cases hm1 : (own_ch (f (1 : Int32))) < (65 : Int32)
      · by_cases hm2 : (own_ch (f (1 : Int32))) < (97 : Int32)
        · by_cases hm3 : (own_ch (f (1 : Int32))) < (48 : Int32)
          · by_cases hm4 : (own_ch (f (1 : Int32))) = (46 : Int32)
            · refine ⟨(1 : Int32), by rw [if_pos hm1, if_pos hm2, if_pos hm3, if_pos hm4], fun tT kK => ?_⟩
              refine XS.iloadN X7_.here hx rfl (hC e18_39.2.2.1) rfl ?_
              refine XS.bipush X7_.here hx rfl (hC e18_39.2.2.2) ?_
              refine XS.icmpYes X7_.here hx rfl (pc0 := 46) (pc' := 55) rfl (hC e18_46.1) rfl (tlt (hm1 : (own_ch (f (1 : Int32))) < (65 : Int32))).1 (by decide) (by decide) ?_
              refine XS.iloadN X7_.here hx rfl (hC e18_46.2.1) rfl ?_
              refine XS.bipush X7_.here hx rfl (hC e18_46.2.2.1) ?_
              refine XS.icmpYes X7_.here hx rfl (pc0 := 58) (pc' := 67) rfl (hC e18_46.2.2.2) rfl (tlt (hm2 : (own_ch (f (1 : Int32))) < (97 : Int32))).1 (by decide) (by decide) ?_
              refine XS.iloadN X7_.here hx rfl (hC e18_67.1) rfl ?_
              refine XS.bipush X7_.here hx rfl (hC e18_67.2.1) ?_
              refine XS.icmpYes X7_.here hx rfl (pc0 := 70) (pc' := 79) rfl (hC e18_67.2.2.1) rfl (tlt (hm3 : (own_ch (f (1 : Int32))) < (48 : Int32))).1 (by decide) (by decide) ?_
              refine XS.iloadN X7_.here hx rfl (hC e18_67.2.2.2) rfl ?_
              refine XS.bipush X7_.here hx rfl (hC e18_80.1) ?_
              show Steps pP.tables eE below (T7_.setTop (mkF mM 82 ll5 [(.int (46 : Int32)), (.int (own_ch (f (1 : Int32))))])) tT
              refine XS.icmpYes X7_.here hx rfl (pc0 := 82) (pc' := 103) rfl (hC e18_80.2.1) rfl (teq (hm4 : (own_ch (f (1 : Int32))) = (46 : Int32))).1 (by decide) (by decide) ?_
              refine XS.iconst X7_.here hx rfl (hC e18_80.2.2.1) ?_
              refine XS.goto X7_.here hx rfl (pc0 := 104) (pc' := 108) rfl (hC e18_80.2.2.2) (by decide) (by decide) ?_
              exact kK
            · by_cases hm5 : (own_ch (f (1 : Int32))) = (95 : Int32)
              · refine ⟨(1 : Int32), by rw [if_pos hm1, if_pos hm2, if_pos hm3, if_neg hm4, if_pos hm5], fun tT kK => ?_⟩
                refine XS.iloadN X7_.here hx rfl (hC e18_39.2.2.1) rfl ?_
                refine XS.bipush X7_.here hx rfl (hC e18_39.2.2.2) ?_
                refine XS.icmpYes X7_.here hx rfl (pc0 := 46) (pc' := 55) rfl (hC e18_46.1) rfl (tlt (hm1 : (own_ch (f (1 : Int32))) < (65 : Int32))).1 (by decide) (by decide) ?_
                refine XS.iloadN X7_.here hx rfl (hC e18_46.2.1) rfl ?_
                refine XS.bipush X7_.here hx rfl (hC e18_46.2.2.1) ?_
                refine XS.icmpYes X7_.here hx rfl (pc0 := 58) (pc' := 67) rfl (hC e18_46.2.2.2) rfl (tlt (hm2 : (own_ch (f (1 : Int32))) < (97 : Int32))).1 (by decide) (by decide) ?_
                refine XS.iloadN X7_.here hx rfl (hC e18_67.1) rfl ?_
                refine XS.bipush X7_.here hx rfl (hC e18_67.2.1) ?_
                refine XS.icmpYes X7_.here hx rfl (pc0 := 70) (pc' := 79) rfl (hC e18_67.2.2.1) rfl (tlt (hm3 : (own_ch (f (1 : Int32))) < (48 : Int32))).1 (by decide) (by decide) ?_
                refine XS.iloadN X7_.here hx rfl (hC e18_67.2.2.2) rfl ?_
                refine XS.bipush X7_.here hx rfl (hC e18_80.1) ?_
                show Steps pP.tables eE below (T7_.setTop (mkF mM 82 ll5 [(.int (46 : Int32)), (.int (own_ch (f (1 : Int32))))])) tT
                refine XS.icmpNo X7_.here hx rfl (hC e18_80.2.1) rfl (feq (hm4 : ¬ ((own_ch (f (1 : Int32))) = (46 : Int32)))).1 ?_
                refine XS.iloadN X7_.here hx rfl (hC e18_85.1) rfl ?_
                refine XS.bipush X7_.here hx rfl (hC e18_85.2.1) ?_
                refine XS.icmpYes X7_.here hx rfl (pc0 := 88) (pc' := 103) rfl (hC e18_85.2.2.1) rfl (teq (hm5 : (own_ch (f (1 : Int32))) = (95 : Int32))).1 (by decide) (by decide) ?_
                refine XS.iconst X7_.here hx rfl (hC e18_80.2.2.1) ?_
                refine XS.goto X7_.here hx rfl (pc0 := 104) (pc' := 108) rfl (hC e18_80.2.2.2) (by decide) (by decide) ?_
                exact kK
              · by_cases hm6 : (own_ch (f (1 : Int32))) = (58 : Int32)
                · refine ⟨(1 : Int32), by rw [if_pos hm1, if_pos hm2, if_pos hm3, if_neg hm4, if_neg hm5, if_pos hm6], fun tT kK => ?_⟩
                  refine XS.iloadN X7_.here hx rfl (hC e18_39.2.2.1) rfl ?_
                  refine XS.bipush X7_.here hx rfl (hC e18_39.2.2.2) ?_
                  refine XS.icmpYes X7_.here hx rfl (pc0 := 46) (pc' := 55) rfl (hC e18_46.1) rfl (tlt (hm1 : (own_ch (f (1 : Int32))) < (65 : Int32))).1 (by decide) (by decide) ?_
                  refine XS.iloadN X7_.here hx rfl (hC e18_46.2.1) rfl ?_
                  refine XS.bipush X7_.here hx rfl (hC e18_46.2.2.1) ?_
                  refine XS.icmpYes X7_.here hx rfl (pc0 := 58) (pc' := 67) rfl (hC e18_46.2.2.2) rfl (tlt (hm2 : (own_ch (f (1 : Int32))) < (97 : Int32))).1 (by decide) (by decide) ?_
                  refine XS.iloadN X7_.here hx rfl (hC e18_67.1) rfl ?_
                  refine XS.bipush X7_.here hx rfl (hC e18_67.2.1) ?_
                  refine XS.icmpYes X7_.here hx rfl (pc0 := 70) (pc' := 79) rfl (hC e18_67.2.2.1) rfl (tlt (hm3 : (own_ch (f (1 : Int32))) < (48 : Int32))).1 (by decide) (by decide) ?_
                  refine XS.iloadN X7_.here hx rfl (hC e18_67.2.2.2) rfl ?_
                  refine XS.bipush X7_.here hx rfl (hC e18_80.1) ?_
                  show Steps pP.tables eE below (T7_.setTop (mkF mM 82 ll5 [(.int (46 : Int32)), (.int (own_ch (f (1 : Int32))))])) tT
                  refine XS.icmpNo X7_.here hx rfl (hC e18_80.2.1) rfl (feq (hm4 : ¬ ((own_ch (f (1 : Int32))) = (46 : Int32)))).1 ?_
                  refine XS.iloadN X7_.here hx rfl (hC e18_85.1) rfl ?_
                  refine XS.bipush X7_.here hx rfl (hC e18_85.2.1) ?_
                  refine XS.icmpNo X7_.here hx rfl (hC e18_85.2.2.1) rfl (feq (hm5 : ¬ ((own_ch (f (1 : Int32))) = (95 : Int32)))).1 ?_
                  refine XS.iloadN X7_.here hx rfl (hC e18_85.2.2.2) rfl ?_
                  refine XS.bipush X7_.here hx rfl (hC e18_92.1) ?_
                  refine XS.icmpYes X7_.here hx rfl (pc0 := 94) (pc' := 103) rfl (hC e18_92.2.1) rfl (teq (hm6 : (own_ch (f (1 : Int32))) = (58 : Int32))).1 (by decide) (by decide) ?_
                  refine XS.iconst X7_.here hx rfl (hC e18_80.2.2.1) ?_
                  refine XS.goto X7_.here hx rfl (pc0 := 104) (pc' := 108) rfl (hC e18_80.2.2.2) (by decide) (by decide) ?_
                  exact kK
                · by_cases hm7 : (own_ch (f (1 : Int32))) = (45 : Int32)
                  · refine ⟨(1 : Int32), by rw [if_pos hm1, if_pos hm2, if_pos hm3, if_neg hm4, if_neg hm5, if_neg hm6, if_pos hm7], fun tT kK => ?_⟩
                    refine XS.iloadN X7_.here hx rfl (hC e18_39.2.2.1) rfl ?_
                    refine XS.bipush X7_.here hx rfl (hC e18_39.2.2.2) ?_
                    refine XS.icmpYes X7_.here hx rfl (pc0 := 46) (pc' := 55) rfl (hC e18_46.1) rfl (tlt (hm1 : (own_ch (f (1 : Int32))) < (65 : Int32))).1 (by decide) (by decide) ?_
                    refine XS.iloadN X7_.here hx rfl (hC e18_46.2.1) rfl ?_
                    refine XS.bipush X7_.here hx rfl (hC e18_46.2.2.1) ?_
                    refine XS.icmpYes X7_.here hx rfl (pc0 := 58) (pc' := 67) rfl (hC e18_46.2.2.2) rfl (tlt (hm2 : (own_ch (f (1 : Int32))) < (97 : Int32))).1 (by decide) (by decide) ?_
                    refine XS.iloadN X7_.here hx rfl (hC e18_67.1) rfl ?_
                    refine XS.bipush X7_.here hx rfl (hC e18_67.2.1) ?_
                    refine XS.icmpYes X7_.here hx rfl (pc0 := 70) (pc' := 79) rfl (hC e18_67.2.2.1) rfl (tlt (hm3 : (own_ch (f (1 : Int32))) < (48 : Int32))).1 (by decide) (by decide) ?_
                    refine XS.iloadN X7_.here hx rfl (hC e18_67.2.2.2) rfl ?_
                    refine XS.bipush X7_.here hx rfl (hC e18_80.1) ?_
                    show Steps pP.tables eE below (T7_.setTop (mkF mM 82 ll5 [(.int (46 : Int32)), (.int (own_ch (f (1 : Int32))))])) tT
                    refine XS.icmpNo X7_.here hx rfl (hC e18_80.2.1) rfl (feq (hm4 : ¬ ((own_ch (f (1 : Int32))) = (46 : Int32)))).1 ?_
                    refine XS.iloadN X7_.here hx rfl (hC e18_85.1) rfl ?_
                    refine XS.bipush X7_.here hx rfl (hC e18_85.2.1) ?_
                    refine XS.icmpNo X7_.here hx rfl (hC e18_85.2.2.1) rfl (feq (hm5 : ¬ ((own_ch (f (1 : Int32))) = (95 : Int32)))).1 ?_
                    refine XS.iloadN X7_.here hx rfl (hC e18_85.2.2.2) rfl ?_
                    refine XS.bipush X7_.here hx rfl (hC e18_92.1) ?_
                    refine XS.icmpNo X7_.here hx rfl (hC e18_92.2.1) rfl (feq (hm6 : ¬ ((own_ch (f (1 : Int32))) = (58 : Int32)))).1 ?_
                    refine XS.iloadN X7_.here hx rfl (hC e18_92.2.2.1) rfl ?_
                    refine XS.bipush X7_.here hx rfl (hC e18_92.2.2.2) ?_
                    refine XS.icmpNo X7_.here hx rfl (hC e18_100.1) rfl (teq (hm7 : (own_ch (f (1 : Int32))) = (45 : Int32))).2 ?_
                    refine XS.iconst X7_.here hx rfl (hC e18_80.2.2.1) ?_
                    refine XS.goto X7_.here hx rfl (pc0 := 104) (pc' := 108) rfl (hC e18_80.2.2.2) (by decide) (by decide) ?_
                    exact kK
                  · refine ⟨(0 : Int32), by rw [if_pos hm1, if_pos hm2, if_pos hm3, if_neg hm4, if_neg hm5, if_neg hm6, if_neg hm7], fun tT kK => ?_⟩
                    refine XS.iloadN X7_.here hx rfl (hC e18_39.2.2.1) rfl ?_
                    refine XS.bipush X7_.here hx rfl (hC e18_39.2.2.2) ?_
                    refine XS.icmpYes X7_.here hx rfl (pc0 := 46) (pc' := 55) rfl (hC e18_46.1) rfl (tlt (hm1 : (own_ch (f (1 : Int32))) < (65 : Int32))).1 (by decide) (by decide) ?_
                    refine XS.iloadN X7_.here hx rfl (hC e18_46.2.1) rfl ?_
                    refine XS.bipush X7_.here hx rfl (hC e18_46.2.2.1) ?_
                    refine XS.icmpYes X7_.here hx rfl (pc0 := 58) (pc' := 67) rfl (hC e18_46.2.2.2) rfl (tlt (hm2 : (own_ch (f (1 : Int32))) < (97 : Int32))).1 (by decide) (by decide) ?_
                    refine XS.iloadN X7_.here hx rfl (hC e18_67.1) rfl ?_
                    refine XS.bipush X7_.here hx rfl (hC e18_67.2.1) ?_
                    refine XS.icmpYes X7_.here hx rfl (pc0 := 70) (pc' := 79) rfl (hC e18_67.2.2.1) rfl (tlt (hm3 : (own_ch (f (1 : Int32))) < (48 : Int32))).1 (by decide) (by decide) ?_
                    refine XS.iloadN X7_.here hx rfl (hC e18_67.2.2.2) rfl ?_
                    refine XS.bipush X7_.here hx rfl (hC e18_80.1) ?_
                    show Steps pP.tables eE below (T7_.setTop (mkF mM 82 ll5 [(.int (46 : Int32)), (.int (own_ch (f (1 : Int32))))])) tT
                    refine XS.icmpNo X7_.here hx rfl (hC e18_80.2.1) rfl (feq (hm4 : ¬ ((own_ch (f (1 : Int32))) = (46 : Int32)))).1 ?_
                    refine XS.iloadN X7_.here hx rfl (hC e18_85.1) rfl ?_
                    refine XS.bipush X7_.here hx rfl (hC e18_85.2.1) ?_
                    refine XS.icmpNo X7_.here hx rfl (hC e18_85.2.2.1) rfl (feq (hm5 : ¬ ((own_ch (f (1 : Int32))) = (95 : Int32)))).1 ?_
                    refine XS.iloadN X7_.here hx rfl (hC e18_85.2.2.2) rfl ?_
                    refine XS.bipush X7_.here hx rfl (hC e18_92.1) ?_
                    refine XS.icmpNo X7_.here hx rfl (hC e18_92.2.1) rfl (feq (hm6 : ¬ ((own_ch (f (1 : Int32))) = (58 : Int32)))).1 ?_
                    refine XS.iloadN X7_.here hx rfl (hC e18_92.2.2.1) rfl ?_
                    refine XS.bipush X7_.here hx rfl (hC e18_92.2.2.2) ?_
                    refine XS.icmpYes X7_.here hx rfl (pc0 := 100) (pc' := 107) rfl (hC e18_100.1) rfl (feq (hm7 : ¬ ((own_ch (f (1 : Int32))) = (45 : Int32)))).2 (by decide) (by decide) ?_
                    refine XS.iconst X7_.here hx rfl (hC e18_100.2.1) ?_
                    exact kK
          · by_cases hm4 : (57 : Int32) < (own_ch (f (1 : Int32)))
            · by_cases hm5 : (own_ch (f (1 : Int32))) = (46 : Int32)
              · refine ⟨(1 : Int32), by rw [if_pos hm1, if_pos hm2, if_neg hm3, if_pos hm4, if_pos hm5], fun tT kK => ?_⟩
                refine XS.iloadN X7_.here hx rfl (hC e18_39.2.2.1) rfl ?_
                refine XS.bipush X7_.here hx rfl (hC e18_39.2.2.2) ?_
                refine XS.icmpYes X7_.here hx rfl (pc0 := 46) (pc' := 55) rfl (hC e18_46.1) rfl (tlt (hm1 : (own_ch (f (1 : Int32))) < (65 : Int32))).1 (by decide) (by decide) ?_
                refine XS.iloadN X7_.here hx rfl (hC e18_46.2.1) rfl ?_
                refine XS.bipush X7_.here hx rfl (hC e18_46.2.2.1) ?_
                refine XS.icmpYes X7_.here hx rfl (pc0 := 58) (pc' := 67) rfl (hC e18_46.2.2.2) rfl (tlt (hm2 : (own_ch (f (1 : Int32))) < (97 : Int32))).1 (by decide) (by decide) ?_
                refine XS.iloadN X7_.here hx rfl (hC e18_67.1) rfl ?_
                refine XS.bipush X7_.here hx rfl (hC e18_67.2.1) ?_
                refine XS.icmpNo X7_.here hx rfl (hC e18_67.2.2.1) rfl (flt (hm3 : ¬ ((own_ch (f (1 : Int32))) < (48 : Int32)))).1 ?_
                refine XS.iloadN X7_.here hx rfl (hC e18_100.2.2.1) rfl ?_
                refine XS.bipush X7_.here hx rfl (hC e18_100.2.2.2) ?_
                show Steps pP.tables eE below (T7_.setTop (mkF mM 76 ll5 [(.int (57 : Int32)), (.int (own_ch (f (1 : Int32))))])) tT
                refine XS.icmpNo X7_.here hx rfl (hC e18_76.1) rfl (tlt (hm4 : (57 : Int32) < (own_ch (f (1 : Int32))))).2.2.2 ?_
                refine XS.iloadN X7_.here hx rfl (hC e18_67.2.2.2) rfl ?_
                refine XS.bipush X7_.here hx rfl (hC e18_80.1) ?_
                refine XS.icmpYes X7_.here hx rfl (pc0 := 82) (pc' := 103) rfl (hC e18_80.2.1) rfl (teq (hm5 : (own_ch (f (1 : Int32))) = (46 : Int32))).1 (by decide) (by decide) ?_
                refine XS.iconst X7_.here hx rfl (hC e18_80.2.2.1) ?_
                refine XS.goto X7_.here hx rfl (pc0 := 104) (pc' := 108) rfl (hC e18_80.2.2.2) (by decide) (by decide) ?_
                exact kK
              · by_cases hm6 : (own_ch (f (1 : Int32))) = (95 : Int32)
                · refine ⟨(1 : Int32), by rw [if_pos hm1, if_pos hm2, if_neg hm3, if_pos hm4, if_neg hm5, if_pos hm6], fun tT kK => ?_⟩
                  refine XS.iloadN X7_.here hx rfl (hC e18_39.2.2.1) rfl ?_
                  refine XS.bipush X7_.here hx rfl (hC e18_39.2.2.2) ?_
                  refine XS.icmpYes X7_.here hx rfl (pc0 := 46) (pc' := 55) rfl (hC e18_46.1) rfl (tlt (hm1 : (own_ch (f (1 : Int32))) < (65 : Int32))).1 (by decide) (by decide) ?_
                  refine XS.iloadN X7_.here hx rfl (hC e18_46.2.1) rfl ?_
                  refine XS.bipush X7_.here hx rfl (hC e18_46.2.2.1) ?_
                  refine XS.icmpYes X7_.here hx rfl (pc0 := 58) (pc' := 67) rfl (hC e18_46.2.2.2) rfl (tlt (hm2 : (own_ch (f (1 : Int32))) < (97 : Int32))).1 (by decide) (by decide) ?_
                  refine XS.iloadN X7_.here hx rfl (hC e18_67.1) rfl ?_
                  refine XS.bipush X7_.here hx rfl (hC e18_67.2.1) ?_
                  refine XS.icmpNo X7_.here hx rfl (hC e18_67.2.2.1) rfl (flt (hm3 : ¬ ((own_ch (f (1 : Int32))) < (48 : Int32)))).1 ?_
                  refine XS.iloadN X7_.here hx rfl (hC e18_100.2.2.1) rfl ?_
                  refine XS.bipush X7_.here hx rfl (hC e18_100.2.2.2) ?_
                  show Steps pP.tables eE below (T7_.setTop (mkF mM 76 ll5 [(.int (57 : Int32)), (.int (own_ch (f (1 : Int32))))])) tT
                  refine XS.icmpNo X7_.here hx rfl (hC e18_76.1) rfl (tlt (hm4 : (57 : Int32) < (own_ch (f (1 : Int32))))).2.2.2 ?_
                  refine XS.iloadN X7_.here hx rfl (hC e18_67.2.2.2) rfl ?_
                  refine XS.bipush X7_.here hx rfl (hC e18_80.1) ?_
                  refine XS.icmpNo X7_.here hx rfl (hC e18_80.2.1) rfl (feq (hm5 : ¬ ((own_ch (f (1 : Int32))) = (46 : Int32)))).1 ?_
                  refine XS.iloadN X7_.here hx rfl (hC e18_85.1) rfl ?_
                  refine XS.bipush X7_.here hx rfl (hC e18_85.2.1) ?_
                  refine XS.icmpYes X7_.here hx rfl (pc0 := 88) (pc' := 103) rfl (hC e18_85.2.2.1) rfl (teq (hm6 : (own_ch (f (1 : Int32))) = (95 : Int32))).1 (by decide) (by decide) ?_
                  refine XS.iconst X7_.here hx rfl (hC e18_80.2.2.1) ?_
                  refine XS.goto X7_.here hx rfl (pc0 := 104) (pc' := 108) rfl (hC e18_80.2.2.2) (by decide) (by decide) ?_
                  exact kK
                · by_cases hm7 : (own_ch (f (1 : Int32))) = (58 : Int32)
                  · refine ⟨(1 : Int32), by rw [if_pos hm1, if_pos hm2, if_neg hm3, if_pos hm4, if_neg hm5, if_neg hm6, if_pos hm7], fun tT kK => ?_⟩
                    refine XS.iloadN X7_.here hx rfl (hC e18_39.2.2.1) rfl ?_
                    refine XS.bipush X7_.here hx rfl (hC e18_39.2.2.2) ?_
                    refine XS.icmpYes X7_.here hx rfl (pc0 := 46) (pc' := 55) rfl (hC e18_46.1) rfl (tlt (hm1 : (own_ch (f (1 : Int32))) < (65 : Int32))).1 (by decide) (by decide) ?_
                    refine XS.iloadN X7_.here hx rfl (hC e18_46.2.1) rfl ?_
                    refine XS.bipush X7_.here hx rfl (hC e18_46.2.2.1) ?_
                    refine XS.icmpYes X7_.here hx rfl (pc0 := 58) (pc' := 67) rfl (hC e18_46.2.2.2) rfl (tlt (hm2 : (own_ch (f (1 : Int32))) < (97 : Int32))).1 (by decide) (by decide) ?_
                    refine XS.iloadN X7_.here hx rfl (hC e18_67.1) rfl ?_
                    refine XS.bipush X7_.here hx rfl (hC e18_67.2.1) ?_
                    refine XS.icmpNo X7_.here hx rfl (hC e18_67.2.2.1) rfl (flt (hm3 : ¬ ((own_ch (f (1 : Int32))) < (48 : Int32)))).1 ?_
                    refine XS.iloadN X7_.here hx rfl (hC e18_100.2.2.1) rfl ?_
                    refine XS.bipush X7_.here hx rfl (hC e18_100.2.2.2) ?_
                    show Steps pP.tables eE below (T7_.setTop (mkF mM 76 ll5 [(.int (57 : Int32)), (.int (own_ch (f (1 : Int32))))])) tT
                    refine XS.icmpNo X7_.here hx rfl (hC e18_76.1) rfl (tlt (hm4 : (57 : Int32) < (own_ch (f (1 : Int32))))).2.2.2 ?_
                    refine XS.iloadN X7_.here hx rfl (hC e18_67.2.2.2) rfl ?_
                    refine XS.bipush X7_.here hx rfl (hC e18_80.1) ?_
                    refine XS.icmpNo X7_.here hx rfl (hC e18_80.2.1) rfl (feq (hm5 : ¬ ((own_ch (f (1 : Int32))) = (46 : Int32)))).1 ?_
                    refine XS.iloadN X7_.here hx rfl (hC e18_85.1) rfl ?_
                    refine XS.bipush X7_.here hx rfl (hC e18_85.2.1) ?_
                    refine XS.icmpNo X7_.here hx rfl (hC e18_85.2.2.1) rfl (feq (hm6 : ¬ ((own_ch (f (1 : Int32))) = (95 : Int32)))).1 ?_
                    refine XS.iloadN X7_.here hx rfl (hC e18_85.2.2.2) rfl ?_
                    refine XS.bipush X7_.here hx rfl (hC e18_92.1) ?_
                    refine XS.icmpYes X7_.here hx rfl (pc0 := 94) (pc' := 103) rfl (hC e18_92.2.1) rfl (teq (hm7 : (own_ch (f (1 : Int32))) = (58 : Int32))).1 (by decide) (by decide) ?_
                    refine XS.iconst X7_.here hx rfl (hC e18_80.2.2.1) ?_
                    refine XS.goto X7_.here hx rfl (pc0 := 104) (pc' := 108) rfl (hC e18_80.2.2.2) (by decide) (by decide) ?_
                    exact kK
                  · by_cases hm8 : (own_ch (f (1 : Int32))) = (45 : Int32)
                    · refine ⟨(1 : Int32), by rw [if_pos hm1, if_pos hm2, if_neg hm3, if_pos hm4, if_neg hm5, if_neg hm6, if_neg hm7, if_pos hm8], fun tT kK => ?_⟩
                      refine XS.iloadN X7_.here hx rfl (hC e18_39.2.2.1) rfl ?_
                      refine XS.bipush X7_.here hx rfl (hC e18_39.2.2.2) ?_
                      refine XS.icmpYes X7_.here hx rfl (pc0 := 46) (pc' := 55) rfl (hC e18_46.1) rfl (tlt (hm1 : (own_ch (f (1 : Int32))) < (65 : Int32))).1 (by decide) (by decide) ?_
                      refine XS.iloadN X7_.here hx rfl (hC e18_46.2.1) rfl ?_
                      refine XS.bipush X7_.here hx rfl (hC e18_46.2.2.1) ?_
                      refine XS.icmpYes X7_.here hx rfl (pc0 := 58) (pc' := 67) rfl (hC e18_46.2.2.2) rfl (tlt (hm2 : (own_ch (f (1 : Int32))) < (97 : Int32))).1 (by decide) (by decide) ?_
                      refine XS.iloadN X7_.here hx rfl (hC e18_67.1) rfl ?_
                      refine XS.bipush X7_.here hx rfl (hC e18_67.2.1) ?_
                      refine XS.icmpNo X7_.here hx rfl (hC e18_67.2.2.1) rfl (flt (hm3 : ¬ ((own_ch (f (1 : Int32))) < (48 : Int32)))).1 ?_
                      refine XS.iloadN X7_.here hx rfl (hC e18_100.2.2.1) rfl ?_
                      refine XS.bipush X7_.here hx rfl (hC e18_100.2.2.2) ?_
                      show Steps pP.tables eE below (T7_.setTop (mkF mM 76 ll5 [(.int (57 : Int32)), (.int (own_ch (f (1 : Int32))))])) tT
                      refine XS.icmpNo X7_.here hx rfl (hC e18_76.1) rfl (tlt (hm4 : (57 : Int32) < (own_ch (f (1 : Int32))))).2.2.2 ?_
                      refine XS.iloadN X7_.here hx rfl (hC e18_67.2.2.2) rfl ?_
                      refine XS.bipush X7_.here hx rfl (hC e18_80.1) ?_
                      refine XS.icmpNo X7_.here hx rfl (hC e18_80.2.1) rfl (feq (hm5 : ¬ ((own_ch (f (1 : Int32))) = (46 : Int32)))).1 ?_
                      refine XS.iloadN X7_.here hx rfl (hC e18_85.1) rfl ?_
                      refine XS.bipush X7_.here hx rfl (hC e18_85.2.1) ?_
                      refine XS.icmpNo X7_.here hx rfl (hC e18_85.2.2.1) rfl (feq (hm6 : ¬ ((own_ch (f (1 : Int32))) = (95 : Int32)))).1 ?_
                      refine XS.iloadN X7_.here hx rfl (hC e18_85.2.2.2) rfl ?_
                      refine XS.bipush X7_.here hx rfl (hC e18_92.1) ?_
                      refine XS.icmpNo X7_.here hx rfl (hC e18_92.2.1) rfl (feq (hm7 : ¬ ((own_ch (f (1 : Int32))) = (58 : Int32)))).1 ?_
                      refine XS.iloadN X7_.here hx rfl (hC e18_92.2.2.1) rfl ?_
                      refine XS.bipush X7_.here hx rfl (hC e18_92.2.2.2) ?_
                      refine XS.icmpNo X7_.here hx rfl (hC e18_100.1) rfl (teq (hm8 : (own_ch (f (1 : Int32))) = (45 : Int32))).2 ?_
                      refine XS.iconst X7_.here hx rfl (hC e18_80.2.2.1) ?_
                      refine XS.goto X7_.here hx rfl (pc0 := 104) (pc' := 108) rfl (hC e18_80.2.2.2) (by decide) (by decide) ?_
                      exact kK
                    · refine ⟨(0 : Int32), by rw [if_pos hm1, if_pos hm2, if_neg hm3, if_pos hm4, if_neg hm5, if_neg hm6, if_neg hm7, if_neg hm8], fun tT kK => ?_⟩
                      refine XS.iloadN X7_.here hx rfl (hC e18_39.2.2.1) rfl ?_
                      refine XS.bipush X7_.here hx rfl (hC e18_39.2.2.2) ?_
                      refine XS.icmpYes X7_.here hx rfl (pc0 := 46) (pc' := 55) rfl (hC e18_46.1) rfl (tlt (hm1 : (own_ch (f (1 : Int32))) < (65 : Int32))).1 (by decide) (by decide) ?_
                      refine XS.iloadN X7_.here hx rfl (hC e18_46.2.1) rfl ?_
                      refine XS.bipush X7_.here hx rfl (hC e18_46.2.2.1) ?_
                      refine XS.icmpYes X7_.here hx rfl (pc0 := 58) (pc' := 67) rfl (hC e18_46.2.2.2) rfl (tlt (hm2 : (own_ch (f (1 : Int32))) < (97 : Int32))).1 (by decide) (by decide) ?_
                      refine XS.iloadN X7_.here hx rfl (hC e18_67.1) rfl ?_
                      refine XS.bipush X7_.here hx rfl (hC e18_67.2.1) ?_
                      refine XS.icmpNo X7_.here hx rfl (hC e18_67.2.2.1) rfl (flt (hm3 : ¬ ((own_ch (f (1 : Int32))) < (48 : Int32)))).1 ?_
                      refine XS.iloadN X7_.here hx rfl (hC e18_100.2.2.1) rfl ?_
                      refine XS.bipush X7_.here hx rfl (hC e18_100.2.2.2) ?_
                      show Steps pP.tables eE below (T7_.setTop (mkF mM 76 ll5 [(.int (57 : Int32)), (.int (own_ch (f (1 : Int32))))])) tT
                      refine XS.icmpNo X7_.here hx rfl (hC e18_76.1) rfl (tlt (hm4 : (57 : Int32) < (own_ch (f (1 : Int32))))).2.2.2 ?_
                      refine XS.iloadN X7_.here hx rfl (hC e18_67.2.2.2) rfl ?_
                      refine XS.bipush X7_.here hx rfl (hC e18_80.1) ?_
                      refine XS.icmpNo X7_.here hx rfl (hC e18_80.2.1) rfl (feq (hm5 : ¬ ((own_ch (f (1 : Int32))) = (46 : Int32)))).1 ?_
                      refine XS.iloadN X7_.here hx rfl (hC e18_85.1) rfl ?_
                      refine XS.bipush X7_.here hx rfl (hC e18_85.2.1) ?_
                      refine XS.icmpNo X7_.here hx rfl (hC e18_85.2.2.1) rfl (feq (hm6 : ¬ ((own_ch (f (1 : Int32))) = (95 : Int32)))).1 ?_
                      refine XS.iloadN X7_.here hx rfl (hC e18_85.2.2.2) rfl ?_
                      refine XS.bipush X7_.here hx rfl (hC e18_92.1) ?_
                      refine XS.icmpNo X7_.here hx rfl (hC e18_92.2.1) rfl (feq (hm7 : ¬ ((own_ch (f (1 : Int32))) = (58 : Int32)))).1 ?_
                      refine XS.iloadN X7_.here hx rfl (hC e18_92.2.2.1) rfl ?_
                      refine XS.bipush X7_.here hx rfl (hC e18_92.2.2.2) ?_
                      refine XS.icmpYes X7_.here hx rfl (pc0 := 100) (pc' := 107) rfl (hC e18_100.1) rfl (feq (hm8 : ¬ ((own_ch (f (1 : Int32))) = (45 : Int32)))).2 (by decide) (by decide) ?_
                      refine XS.iconst X7_.here hx rfl (hC e18_100.2.1) ?_
                      exact kK
            · refine ⟨(1 : Int32), by rw [if_pos hm1, if_pos hm2, if_neg hm3, if_neg hm4], fun tT kK => ?_⟩
              refine XS.iloadN X7_.here hx rfl (hC e18_39.2.2.1) rfl ?_
              refine XS.bipush X7_.here hx rfl (hC e18_39.2.2.2) ?_
              refine XS.icmpYes X7_.here hx rfl (pc0 := 46) (pc' := 55) rfl (hC e18_46.1) rfl (tlt (hm1 : (own_ch (f (1 : Int32))) < (65 : Int32))).1 (by decide) (by decide) ?_
              refine XS.iloadN X7_.here hx rfl (hC e18_46.2.1) rfl ?_
              refine XS.bipush X7_.here hx rfl (hC e18_46.2.2.1) ?_
              refine XS.icmpYes X7_.here hx rfl (pc0 := 58) (pc' := 67) rfl (hC e18_46.2.2.2) rfl (tlt (hm2 : (own_ch (f (1 : Int32))) < (97 : Int32))).1 (by decide) (by decide) ?_
              refine XS.iloadN X7_.here hx rfl (hC e18_67.1) rfl ?_
              refine XS.bipush X7_.here hx rfl (hC e18_67.2.1) ?_
              refine XS.icmpNo X7_.here hx rfl (hC e18_67.2.2.1) rfl (flt (hm3 : ¬ ((own_ch (f (1 : Int32))) < (48 : Int32)))).1 ?_
              refine XS.iloadN X7_.here hx rfl (hC e18_100.2.2.1) rfl ?_
              refine XS.bipush X7_.here hx rfl (hC e18_100.2.2.2) ?_
              show Steps pP.tables eE below (T7_.setTop (mkF mM 76 ll5 [(.int (57 : Int32)), (.int (own_ch (f (1 : Int32))))])) tT
              refine XS.icmpYes X7_.here hx rfl (pc0 := 76) (pc' := 103) rfl (hC e18_76.1) rfl (flt (hm4 : ¬ ((57 : Int32) < (own_ch (f (1 : Int32)))))).2.2.2 (by decide) (by decide) ?_
              refine XS.iconst X7_.here hx rfl (hC e18_80.2.2.1) ?_
              refine XS.goto X7_.here hx rfl (pc0 := 104) (pc' := 108) rfl (hC e18_80.2.2.2) (by decide) (by decide) ?_
              exact kK
        · by_cases hm3 : (122 : Int32) < (own_ch (f (1 : Int32)))
          · by_cases hm4 : (own_ch (f (1 : Int32))) < (48 : Int32)
            · by_cases hm5 : (own_ch (f (1 : Int32))) = (46 : Int32)
              · refine ⟨(1 : Int32), by rw [if_pos hm1, if_neg hm2, if_pos hm3, if_pos hm4, if_pos hm5], fun tT kK => ?_⟩
                refine XS.iloadN X7_.here hx rfl (hC e18_39.2.2.1) rfl ?_
                refine XS.bipush X7_.here hx rfl (hC e18_39.2.2.2) ?_
                refine XS.icmpYes X7_.here hx rfl (pc0 := 46) (pc' := 55) rfl (hC e18_46.1) rfl (tlt (hm1 : (own_ch (f (1 : Int32))) < (65 : Int32))).1 (by decide) (by decide) ?_
                refine XS.iloadN X7_.here hx rfl (hC e18_46.2.1) rfl ?_
                refine XS.bipush X7_.here hx rfl (hC e18_46.2.2.1) ?_
                refine XS.icmpNo X7_.here hx rfl (hC e18_46.2.2.2) rfl (flt (hm2 : ¬ ((own_ch (f (1 : Int32))) < (97 : Int32)))).1 ?_
                refine XS.iloadN X7_.here hx rfl (hC e18_76.2.1) rfl ?_
                refine XS.bipush X7_.here hx rfl (hC e18_76.2.2.1) ?_
                refine XS.icmpNo X7_.here hx rfl (hC e18_76.2.2.2) rfl (tlt (hm3 : (122 : Int32) < (own_ch (f (1 : Int32))))).2.2.2 ?_
                refine XS.iloadN X7_.here hx rfl (hC e18_67.1) rfl ?_
                refine XS.bipush X7_.here hx rfl (hC e18_67.2.1) ?_
                show Steps pP.tables eE below (T7_.setTop (mkF mM 70 ll5 [(.int (48 : Int32)), (.int (own_ch (f (1 : Int32))))])) tT
                refine XS.icmpYes X7_.here hx rfl (pc0 := 70) (pc' := 79) rfl (hC e18_67.2.2.1) rfl (tlt (hm4 : (own_ch (f (1 : Int32))) < (48 : Int32))).1 (by decide) (by decide) ?_
                refine XS.iloadN X7_.here hx rfl (hC e18_67.2.2.2) rfl ?_
                refine XS.bipush X7_.here hx rfl (hC e18_80.1) ?_
                refine XS.icmpYes X7_.here hx rfl (pc0 := 82) (pc' := 103) rfl (hC e18_80.2.1) rfl (teq (hm5 : (own_ch (f (1 : Int32))) = (46 : Int32))).1 (by decide) (by decide) ?_
                refine XS.iconst X7_.here hx rfl (hC e18_80.2.2.1) ?_
                refine XS.goto X7_.here hx rfl (pc0 := 104) (pc' := 108) rfl (hC e18_80.2.2.2) (by decide) (by decide) ?_
                exact kK
              · by_cases hm6 : (own_ch (f (1 : Int32))) = (95 : Int32)
                · refine ⟨(1 : Int32), by rw [if_pos hm1, if_neg hm2, if_pos hm3, if_pos hm4, if_neg hm5, if_pos hm6], fun tT kK => ?_⟩
                  refine XS.iloadN X7_.here hx rfl (hC e18_39.2.2.1) rfl ?_
                  refine XS.bipush X7_.here hx rfl (hC e18_39.2.2.2) ?_
                  refine XS.icmpYes X7_.here hx rfl (pc0 := 46) (pc' := 55) rfl (hC e18_46.1) rfl (tlt (hm1 : (own_ch (f (1 : Int32))) < (65 : Int32))).1 (by decide) (by decide) ?_
                  refine XS.iloadN X7_.here hx rfl (hC e18_46.2.1) rfl ?_
                  refine XS.bipush X7_.here hx rfl (hC e18_46.2.2.1) ?_
                  refine XS.icmpNo X7_.here hx rfl (hC e18_46.2.2.2) rfl (flt (hm2 : ¬ ((own_ch (f (1 : Int32))) < (97 : Int32)))).1 ?_
                  refine XS.iloadN X7_.here hx rfl (hC e18_76.2.1) rfl ?_
                  refine XS.bipush X7_.here hx rfl (hC e18_76.2.2.1) ?_
                  refine XS.icmpNo X7_.here hx rfl (hC e18_76.2.2.2) rfl (tlt (hm3 : (122 : Int32) < (own_ch (f (1 : Int32))))).2.2.2 ?_
                  refine XS.iloadN X7_.here hx rfl (hC e18_67.1) rfl ?_
                  refine XS.bipush X7_.here hx rfl (hC e18_67.2.1) ?_
                  show Steps pP.tables eE below (T7_.setTop (mkF mM 70 ll5 [(.int (48 : Int32)), (.int (own_ch (f (1 : Int32))))])) tT
                  refine XS.icmpYes X7_.here hx rfl (pc0 := 70) (pc' := 79) rfl (hC e18_67.2.2.1) rfl (tlt (hm4 : (own_ch (f (1 : Int32))) < (48 : Int32))).1 (by decide) (by decide) ?_
                  refine XS.iloadN X7_.here hx rfl (hC e18_67.2.2.2) rfl ?_
                  refine XS.bipush X7_.here hx rfl (hC e18_80.1) ?_
                  refine XS.icmpNo X7_.here hx rfl (hC e18_80.2.1) rfl (feq (hm5 : ¬ ((own_ch (f (1 : Int32))) = (46 : Int32)))).1 ?_
                  refine XS.iloadN X7_.here hx rfl (hC e18_85.1) rfl ?_
                  refine XS.bipush X7_.here hx rfl (hC e18_85.2.1) ?_
                  refine XS.icmpYes X7_.here hx rfl (pc0 := 88) (pc' := 103) rfl (hC e18_85.2.2.1) rfl (teq (hm6 : (own_ch (f (1 : Int32))) = (95 : Int32))).1 (by decide) (by decide) ?_
                  refine XS.iconst X7_.here hx rfl (hC e18_80.2.2.1) ?_
                  refine XS.goto X7_.here hx rfl (pc0 := 104) (pc' := 108) rfl (hC e18_80.2.2.2) (by decide) (by decide) ?_
                  exact kK
                · by_cases hm7 : (own_ch (f (1 : Int32))) = (58 : Int32)
                  · refine ⟨(1 : Int32), by rw [if_pos hm1, if_neg hm2, if_pos hm3, if_pos hm4, if_neg hm5, if_neg hm6, if_pos hm7], fun tT kK => ?_⟩
                    refine XS.iloadN X7_.here hx rfl (hC e18_39.2.2.1) rfl ?_
                    refine XS.bipush X7_.here hx rfl (hC e18_39.2.2.2) ?_
                    refine XS.icmpYes X7_.here hx rfl (pc0 := 46) (pc' := 55) rfl (hC e18_46.1) rfl (tlt (hm1 : (own_ch (f (1 : Int32))) < (65 : Int32))).1 (by decide) (by decide) ?_
                    refine XS.iloadN X7_.here hx rfl (hC e18_46.2.1) rfl ?_
                    refine XS.bipush X7_.here hx rfl (hC e18_46.2.2.1) ?_
                    refine XS.icmpNo X7_.here hx rfl (hC e18_46.2.2.2) rfl (flt (hm2 : ¬ ((own_ch (f (1 : Int32))) < (97 : Int32)))).1 ?_
                    refine XS.iloadN X7_.here hx rfl (hC e18_76.2.1) rfl ?_
                    refine XS.bipush X7_.here hx rfl (hC e18_76.2.2.1) ?_
                    refine XS.icmpNo X7_.here hx rfl (hC e18_76.2.2.2) rfl (tlt (hm3 : (122 : Int32) < (own_ch (f (1 : Int32))))).2.2.2 ?_
                    refine XS.iloadN X7_.here hx rfl (hC e18_67.1) rfl ?_
                    refine XS.bipush X7_.here hx rfl (hC e18_67.2.1) ?_
                    show Steps pP.tables eE below (T7_.setTop (mkF mM 70 ll5 [(.int (48 : Int32)), (.int (own_ch (f (1 : Int32))))])) tT
                    refine XS.icmpYes X7_.here hx rfl (pc0 := 70) (pc' := 79) rfl (hC e18_67.2.2.1) rfl (tlt (hm4 : (own_ch (f (1 : Int32))) < (48 : Int32))).1 (by decide) (by decide) ?_
                    refine XS.iloadN X7_.here hx rfl (hC e18_67.2.2.2) rfl ?_
                    refine XS.bipush X7_.here hx rfl (hC e18_80.1) ?_
                    refine XS.icmpNo X7_.here hx rfl (hC e18_80.2.1) rfl (feq (hm5 : ¬ ((own_ch (f (1 : Int32))) = (46 : Int32)))).1 ?_
                    refine XS.iloadN X7_.here hx rfl (hC e18_85.1) rfl ?_
                    refine XS.bipush X7_.here hx rfl (hC e18_85.2.1) ?_
                    refine XS.icmpNo X7_.here hx rfl (hC e18_85.2.2.1) rfl (feq (hm6 : ¬ ((own_ch (f (1 : Int32))) = (95 : Int32)))).1 ?_
                    refine XS.iloadN X7_.here hx rfl (hC e18_85.2.2.2) rfl ?_
                    refine XS.bipush X7_.here hx rfl (hC e18_92.1) ?_
                    refine XS.icmpYes X7_.here hx rfl (pc0 := 94) (pc' := 103) rfl (hC e18_92.2.1) rfl (teq (hm7 : (own_ch (f (1 : Int32))) = (58 : Int32))).1 (by decide) (by decide) ?_
                    refine XS.iconst X7_.here hx rfl (hC e18_80.2.2.1) ?_
                    refine XS.goto X7_.here hx rfl (pc0 := 104) (pc' := 108) rfl (hC e18_80.2.2.2) (by decide) (by decide) ?_
                    exact kK
                  · by_cases hm8 : (own_ch (f (1 : Int32))) = (45 : Int32)
                    · refine ⟨(1 : Int32), by rw [if_pos hm1, if_neg hm2, if_pos hm3, if_pos hm4, if_neg hm5, if_neg hm6, if_neg hm7, if_pos hm8], fun tT kK => ?_⟩
                      refine XS.iloadN X7_.here hx rfl (hC e18_39.2.2.1) rfl ?_
                      refine XS.bipush X7_.here hx rfl (hC e18_39.2.2.2) ?_
                      refine XS.icmpYes X7_.here hx rfl (pc0 := 46) (pc' := 55) rfl (hC e18_46.1) rfl (tlt (hm1 : (own_ch (f (1 : Int32))) < (65 : Int32))).1 (by decide) (by decide) ?_
                      refine XS.iloadN X7_.here hx rfl (hC e18_46.2.1) rfl ?_
                      refine XS.bipush X7_.here hx rfl (hC e18_46.2.2.1) ?_
                      refine XS.icmpNo X7_.here hx rfl (hC e18_46.2.2.2) rfl (flt (hm2 : ¬ ((own_ch (f (1 : Int32))) < (97 : Int32)))).1 ?_
                      refine XS.iloadN X7_.here hx rfl (hC e18_76.2.1) rfl ?_
                      refine XS.bipush X7_.here hx rfl (hC e18_76.2.2.1) ?_
                      refine XS.icmpNo X7_.here hx rfl (hC e18_76.2.2.2) rfl (tlt (hm3 : (122 : Int32) < (own_ch (f (1 : Int32))))).2.2.2 ?_
                      refine XS.iloadN X7_.here hx rfl (hC e18_67.1) rfl ?_
                      refine XS.bipush X7_.here hx rfl (hC e18_67.2.1) ?_
                      show Steps pP.tables eE below (T7_.setTop (mkF mM 70 ll5 [(.int (48 : Int32)), (.int (own_ch (f (1 : Int32))))])) tT
                      refine XS.icmpYes X7_.here hx rfl (pc0 := 70) (pc' := 79) rfl (hC e18_67.2.2.1) rfl (tlt (hm4 : (own_ch (f (1 : Int32))) < (48 : Int32))).1 (by decide) (by decide) ?_
                      refine XS.iloadN X7_.here hx rfl (hC e18_67.2.2.2) rfl ?_
                      refine XS.bipush X7_.here hx rfl (hC e18_80.1) ?_
                      refine XS.icmpNo X7_.here hx rfl (hC e18_80.2.1) rfl (feq (hm5 : ¬ ((own_ch (f (1 : Int32))) = (46 : Int32)))).1 ?_
                      refine XS.iloadN X7_.here hx rfl (hC e18_85.1) rfl ?_
                      refine XS.bipush X7_.here hx rfl (hC e18_85.2.1) ?_
                      refine XS.icmpNo X7_.here hx rfl (hC e18_85.2.2.1) rfl (feq (hm6 : ¬ ((own_ch (f (1 : Int32))) = (95 : Int32)))).1 ?_
                      refine XS.iloadN X7_.here hx rfl (hC e18_85.2.2.2) rfl ?_
                      refine XS.bipush X7_.here hx rfl (hC e18_92.1) ?_
                      refine XS.icmpNo X7_.here hx rfl (hC e18_92.2.1) rfl (feq (hm7 : ¬ ((own_ch (f (1 : Int32))) = (58 : Int32)))).1 ?_
                      refine XS.iloadN X7_.here hx rfl (hC e18_92.2.2.1) rfl ?_
                      refine XS.bipush X7_.here hx rfl (hC e18_92.2.2.2) ?_
                      refine XS.icmpNo X7_.here hx rfl (hC e18_100.1) rfl (teq (hm8 : (own_ch (f (1 : Int32))) = (45 : Int32))).2 ?_
                      refine XS.iconst X7_.here hx rfl (hC e18_80.2.2.1) ?_
                      refine XS.goto X7_.here hx rfl (pc0 := 104) (pc' := 108) rfl (hC e18_80.2.2.2) (by decide) (by decide) ?_
                      exact kK
                    · refine ⟨(0 : Int32), by rw [if_pos hm1, if_neg hm2, if_pos hm3, if_pos hm4, if_neg hm5, if_neg hm6, if_neg hm7, if_neg hm8], fun tT kK => ?_⟩
                      refine XS.iloadN X7_.here hx rfl (hC e18_39.2.2.1) rfl ?_
                      refine XS.bipush X7_.here hx rfl (hC e18_39.2.2.2) ?_
                      refine XS.icmpYes X7_.here hx rfl (pc0 := 46) (pc' := 55) rfl (hC e18_46.1) rfl (tlt (hm1 : (own_ch (f (1 : Int32))) < (65 : Int32))).1 (by decide) (by decide) ?_
                      refine XS.iloadN X7_.here hx rfl (hC e18_46.2.1) rfl ?_
                      refine XS.bipush X7_.here hx rfl (hC e18_46.2.2.1) ?_
                      refine XS.icmpNo X7_.here hx rfl (hC e18_46.2.2.2) rfl (flt (hm2 : ¬ ((own_ch (f (1 : Int32))) < (97 : Int32)))).1 ?_
                      refine XS.iloadN X7_.here hx rfl (hC e18_76.2.1) rfl ?_
                      refine XS.bipush X7_.here hx rfl (hC e18_76.2.2.1) ?_
                      refine XS.icmpNo X7_.here hx rfl (hC e18_76.2.2.2) rfl (tlt (hm3 : (122 : Int32) < (own_ch (f (1 : Int32))))).2.2.2 ?_
                      refine XS.iloadN X7_.here hx rfl (hC e18_67.1) rfl ?_
                      refine XS.bipush X7_.here hx rfl (hC e18_67.2.1) ?_
                      show Steps pP.tables eE below (T7_.setTop (mkF mM 70 ll5 [(.int (48 : Int32)), (.int (own_ch (f (1 : Int32))))])) tT
                      refine XS.icmpYes X7_.here hx rfl (pc0 := 70) (pc' := 79) rfl (hC e18_67.2.2.1) rfl (tlt (hm4 : (own_ch (f (1 : Int32))) < (48 : Int32))).1 (by decide) (by decide) ?_
                      refine XS.iloadN X7_.here hx rfl (hC e18_67.2.2.2) rfl ?_
                      refine XS.bipush X7_.here hx rfl (hC e18_80.1) ?_
                      refine XS.icmpNo X7_.here hx rfl (hC e18_80.2.1) rfl (feq (hm5 : ¬ ((own_ch (f (1 : Int32))) = (46 : Int32)))).1 ?_
                      refine XS.iloadN X7_.here hx rfl (hC e18_85.1) rfl ?_
                      refine XS.bipush X7_.here hx rfl (hC e18_85.2.1) ?_
                      refine XS.icmpNo X7_.here hx rfl (hC e18_85.2.2.1) rfl (feq (hm6 : ¬ ((own_ch (f (1 : Int32))) = (95 : Int32)))).1 ?_
                      refine XS.iloadN X7_.here hx rfl (hC e18_85.2.2.2) rfl ?_
                      refine XS.bipush X7_.here hx rfl (hC e18_92.1) ?_
                      refine XS.icmpNo X7_.here hx rfl (hC e18_92.2.1) rfl (feq (hm7 : ¬ ((own_ch (f (1 : Int32))) = (58 : Int32)))).1 ?_
                      refine XS.iloadN X7_.here hx rfl (hC e18_92.2.2.1) rfl ?_
                      refine XS.bipush X7_.here hx rfl (hC e18_92.2.2.2) ?_
                      refine XS.icmpYes X7_.here hx rfl (pc0 := 100) (pc' := 107) rfl (hC e18_100.1) rfl (feq (hm8 : ¬ ((own_ch (f (1 : Int32))) = (45 : Int32)))).2 (by decide) (by decide) ?_
                      refine XS.iconst X7_.here hx rfl (hC e18_100.2.1) ?_
                      exact kK
            · by_cases hm5 : (57 : Int32) < (own_ch (f (1 : Int32)))
              · by_cases hm6 : (own_ch (f (1 : Int32))) = (46 : Int32)
                · refine ⟨(1 : Int32), by rw [if_pos hm1, if_neg hm2, if_pos hm3, if_neg hm4, if_pos hm5, if_pos hm6], fun tT kK => ?_⟩
                  refine XS.iloadN X7_.here hx rfl (hC e18_39.2.2.1) rfl ?_
                  refine XS.bipush X7_.here hx rfl (hC e18_39.2.2.2) ?_
                  refine XS.icmpYes X7_.here hx rfl (pc0 := 46) (pc' := 55) rfl (hC e18_46.1) rfl (tlt (hm1 : (own_ch (f (1 : Int32))) < (65 : Int32))).1 (by decide) (by decide) ?_
                  refine XS.iloadN X7_.here hx rfl (hC e18_46.2.1) rfl ?_
                  refine XS.bipush X7_.here hx rfl (hC e18_46.2.2.1) ?_
                  refine XS.icmpNo X7_.here hx rfl (hC e18_46.2.2.2) rfl (flt (hm2 : ¬ ((own_ch (f (1 : Int32))) < (97 : Int32)))).1 ?_
                  refine XS.iloadN X7_.here hx rfl (hC e18_76.2.1) rfl ?_
                  refine XS.bipush X7_.here hx rfl (hC e18_76.2.2.1) ?_
                  refine XS.icmpNo X7_.here hx rfl (hC e18_76.2.2.2) rfl (tlt (hm3 : (122 : Int32) < (own_ch (f (1 : Int32))))).2.2.2 ?_
                  refine XS.iloadN X7_.here hx rfl (hC e18_67.1) rfl ?_
                  refine XS.bipush X7_.here hx rfl (hC e18_67.2.1) ?_
                  show Steps pP.tables eE below (T7_.setTop (mkF mM 70 ll5 [(.int (48 : Int32)), (.int (own_ch (f (1 : Int32))))])) tT
                  refine XS.icmpNo X7_.here hx rfl (hC e18_67.2.2.1) rfl (flt (hm4 : ¬ ((own_ch (f (1 : Int32))) < (48 : Int32)))).1 ?_
                  refine XS.iloadN X7_.here hx rfl (hC e18_100.2.2.1) rfl ?_
                  refine XS.bipush X7_.here hx rfl (hC e18_100.2.2.2) ?_
                  refine XS.icmpNo X7_.here hx rfl (hC e18_76.1) rfl (tlt (hm5 : (57 : Int32) < (own_ch (f (1 : Int32))))).2.2.2 ?_
                  refine XS.iloadN X7_.here hx rfl (hC e18_67.2.2.2) rfl ?_
                  refine XS.bipush X7_.here hx rfl (hC e18_80.1) ?_
                  refine XS.icmpYes X7_.here hx rfl (pc0 := 82) (pc' := 103) rfl (hC e18_80.2.1) rfl (teq (hm6 : (own_ch (f (1 : Int32))) = (46 : Int32))).1 (by decide) (by decide) ?_
                  refine XS.iconst X7_.here hx rfl (hC e18_80.2.2.1) ?_
                  refine XS.goto X7_.here hx rfl (pc0 := 104) (pc' := 108) rfl (hC e18_80.2.2.2) (by decide) (by decide) ?_
                  exact kK
                · by_cases hm7 : (own_ch (f (1 : Int32))) = (95 : Int32)
                  · refine ⟨(1 : Int32), by rw [if_pos hm1, if_neg hm2, if_pos hm3, if_neg hm4, if_pos hm5, if_neg hm6, if_pos hm7], fun tT kK => ?_⟩
                    refine XS.iloadN X7_.here hx rfl (hC e18_39.2.2.1) rfl ?_
                    refine XS.bipush X7_.here hx rfl (hC e18_39.2.2.2) ?_
                    refine XS.icmpYes X7_.here hx rfl (pc0 := 46) (pc' := 55) rfl (hC e18_46.1) rfl (tlt (hm1 : (own_ch (f (1 : Int32))) < (65 : Int32))).1 (by decide) (by decide) ?_
                    refine XS.iloadN X7_.here hx rfl (hC e18_46.2.1) rfl ?_
                    refine XS.bipush X7_.here hx rfl (hC e18_46.2.2.1) ?_
                    refine XS.icmpNo X7_.here hx rfl (hC e18_46.2.2.2) rfl (flt (hm2 : ¬ ((own_ch (f (1 : Int32))) < (97 : Int32)))).1 ?_
                    refine XS.iloadN X7_.here hx rfl (hC e18_76.2.1) rfl ?_
                    refine XS.bipush X7_.here hx rfl (hC e18_76.2.2.1) ?_
                    refine XS.icmpNo X7_.here hx rfl (hC e18_76.2.2.2) rfl (tlt (hm3 : (122 : Int32) < (own_ch (f (1 : Int32))))).2.2.2 ?_
                    refine XS.iloadN X7_.here hx rfl (hC e18_67.1) rfl ?_
                    refine XS.bipush X7_.here hx rfl (hC e18_67.2.1) ?_
                    show Steps pP.tables eE below (T7_.setTop (mkF mM 70 ll5 [(.int (48 : Int32)), (.int (own_ch (f (1 : Int32))))])) tT
                    refine XS.icmpNo X7_.here hx rfl (hC e18_67.2.2.1) rfl (flt (hm4 : ¬ ((own_ch (f (1 : Int32))) < (48 : Int32)))).1 ?_
                    refine XS.iloadN X7_.here hx rfl (hC e18_100.2.2.1) rfl ?_
                    refine XS.bipush X7_.here hx rfl (hC e18_100.2.2.2) ?_
                    refine XS.icmpNo X7_.here hx rfl (hC e18_76.1) rfl (tlt (hm5 : (57 : Int32) < (own_ch (f (1 : Int32))))).2.2.2 ?_
                    refine XS.iloadN X7_.here hx rfl (hC e18_67.2.2.2) rfl ?_
                    refine XS.bipush X7_.here hx rfl (hC e18_80.1) ?_
                    refine XS.icmpNo X7_.here hx rfl (hC e18_80.2.1) rfl (feq (hm6 : ¬ ((own_ch (f (1 : Int32))) = (46 : Int32)))).1 ?_
                    refine XS.iloadN X7_.here hx rfl (hC e18_85.1) rfl ?_
                    refine XS.bipush X7_.here hx rfl (hC e18_85.2.1) ?_
                    refine XS.icmpYes X7_.here hx rfl (pc0 := 88) (pc' := 103) rfl (hC e18_85.2.2.1) rfl (teq (hm7 : (own_ch (f (1 : Int32))) = (95 : Int32))).1 (by decide) (by decide) ?_
                    refine XS.iconst X7_.here hx rfl (hC e18_80.2.2.1) ?_
                    refine XS.goto X7_.here hx rfl (pc0 := 104) (pc' := 108) rfl (hC e18_80.2.2.2) (by decide) (by decide) ?_
                    exact kK
                  · by_cases hm8 : (own_ch (f (1 : Int32))) = (58 : Int32)
                    · refine ⟨(1 : Int32), by rw [if_pos hm1, if_neg hm2, if_pos hm3, if_neg hm4, if_pos hm5, if_neg hm6, if_neg hm7, if_pos hm8], fun tT kK => ?_⟩
                      refine XS.iloadN X7_.here hx rfl (hC e18_39.2.2.1) rfl ?_
                      refine XS.bipush X7_.here hx rfl (hC e18_39.2.2.2) ?_
                      refine XS.icmpYes X7_.here hx rfl (pc0 := 46) (pc' := 55) rfl (hC e18_46.1) rfl (tlt (hm1 : (own_ch (f (1 : Int32))) < (65 : Int32))).1 (by decide) (by decide) ?_
                      refine XS.iloadN X7_.here hx rfl (hC e18_46.2.1) rfl ?_
                      refine XS.bipush X7_.here hx rfl (hC e18_46.2.2.1) ?_
                      refine XS.icmpNo X7_.here hx rfl (hC e18_46.2.2.2) rfl (flt (hm2 : ¬ ((own_ch (f (1 : Int32))) < (97 : Int32)))).1 ?_
                      refine XS.iloadN X7_.here hx rfl (hC e18_76.2.1) rfl ?_
                      refine XS.bipush X7_.here hx rfl (hC e18_76.2.2.1) ?_
                      refine XS.icmpNo X7_.here hx rfl (hC e18_76.2.2.2) rfl (tlt (hm3 : (122 : Int32) < (own_ch (f (1 : Int32))))).2.2.2 ?_
                      refine XS.iloadN X7_.here hx rfl (hC e18_67.1) rfl ?_
                      refine XS.bipush X7_.here hx rfl (hC e18_67.2.1) ?_
                      show Steps pP.tables eE below (T7_.setTop (mkF mM 70 ll5 [(.int (48 : Int32)), (.int (own_ch (f (1 : Int32))))])) tT
                      refine XS.icmpNo X7_.here hx rfl (hC e18_67.2.2.1) rfl (flt (hm4 : ¬ ((own_ch (f (1 : Int32))) < (48 : Int32)))).1 ?_
                      refine XS.iloadN X7_.here hx rfl (hC e18_100.2.2.1) rfl ?_
                      refine XS.bipush X7_.here hx rfl (hC e18_100.2.2.2) ?_
                      refine XS.icmpNo X7_.here hx rfl (hC e18_76.1) rfl (tlt (hm5 : (57 : Int32) < (own_ch (f (1 : Int32))))).2.2.2 ?_
                      refine XS.iloadN X7_.here hx rfl (hC e18_67.2.2.2) rfl ?_
                      refine XS.bipush X7_.here hx rfl (hC e18_80.1) ?_
                      refine XS.icmpNo X7_.here hx rfl (hC e18_80.2.1) rfl (feq (hm6 : ¬ ((own_ch (f (1 : Int32))) = (46 : Int32)))).1 ?_
                      refine XS.iloadN X7_.here hx rfl (hC e18_85.1) rfl ?_
                      refine XS.bipush X7_.here hx rfl (hC e18_85.2.1) ?_
                      refine XS.icmpNo X7_.here hx rfl (hC e18_85.2.2.1) rfl (feq (hm7 : ¬ ((own_ch (f (1 : Int32))) = (95 : Int32)))).1 ?_
                      refine XS.iloadN X7_.here hx rfl (hC e18_85.2.2.2) rfl ?_
                      refine XS.bipush X7_.here hx rfl (hC e18_92.1) ?_
                      refine XS.icmpYes X7_.here hx rfl (pc0 := 94) (pc' := 103) rfl (hC e18_92.2.1) rfl (teq (hm8 : (own_ch (f (1 : Int32))) = (58 : Int32))).1 (by decide) (by decide) ?_
                      refine XS.iconst X7_.here hx rfl (hC e18_80.2.2.1) ?_
                      refine XS.goto X7_.here hx rfl (pc0 := 104) (pc' := 108) rfl (hC e18_80.2.2.2) (by decide) (by decide) ?_
                      exact kK
                    · by_cases hm9 : (own_ch (f (1 : Int32))) = (45 : Int32)
                      · refine ⟨(1 : Int32), by rw [if_pos hm1, if_neg hm2, if_pos hm3, if_neg hm4, if_pos hm5, if_neg hm6, if_neg hm7, if_neg hm8, if_pos hm9], fun tT kK => ?_⟩
                        refine XS.iloadN X7_.here hx rfl (hC e18_39.2.2.1) rfl ?_
                        refine XS.bipush X7_.here hx rfl (hC e18_39.2.2.2) ?_
                        refine XS.icmpYes X7_.here hx rfl (pc0 := 46) (pc' := 55) rfl (hC e18_46.1) rfl (tlt (hm1 : (own_ch (f (1 : Int32))) < (65 : Int32))).1 (by decide) (by decide) ?_
                        refine XS.iloadN X7_.here hx rfl (hC e18_46.2.1) rfl ?_
                        refine XS.bipush X7_.here hx rfl (hC e18_46.2.2.1) ?_
                        refine XS.icmpNo X7_.here hx rfl (hC e18_46.2.2.2) rfl (flt (hm2 : ¬ ((own_ch (f (1 : Int32))) < (97 : Int32)))).1 ?_
                        refine XS.iloadN X7_.here hx rfl (hC e18_76.2.1) rfl ?_
                        refine XS.bipush X7_.here hx rfl (hC e18_76.2.2.1) ?_
                        refine XS.icmpNo X7_.here hx rfl (hC e18_76.2.2.2) rfl (tlt (hm3 : (122 : Int32) < (own_ch (f (1 : Int32))))).2.2.2 ?_
                        refine XS.iloadN X7_.here hx rfl (hC e18_67.1) rfl ?_
                        refine XS.bipush X7_.here hx rfl (hC e18_67.2.1) ?_
                        show Steps pP.tables eE below (T7_.setTop (mkF mM 70 ll5 [(.int (48 : Int32)), (.int (own_ch (f (1 : Int32))))])) tT
                        refine XS.icmpNo X7_.here hx rfl (hC e18_67.2.2.1) rfl (flt (hm4 : ¬ ((own_ch (f (1 : Int32))) < (48 : Int32)))).1 ?_
                        refine XS.iloadN X7_.here hx rfl (hC e18_100.2.2.1) rfl ?_
                        refine XS.bipush X7_.here hx rfl (hC e18_100.2.2.2) ?_
                        refine XS.icmpNo X7_.here hx rfl (hC e18_76.1) rfl (tlt (hm5 : (57 : Int32) < (own_ch (f (1 : Int32))))).2.2.2 ?_
                        refine XS.iloadN X7_.here hx rfl (hC e18_67.2.2.2) rfl ?_
                        refine XS.bipush X7_.here hx rfl (hC e18_80.1) ?_
                        refine XS.icmpNo X7_.here hx rfl (hC e18_80.2.1) rfl (feq (hm6 : ¬ ((own_ch (f (1 : Int32))) = (46 : Int32)))).1 ?_
                        refine XS.iloadN X7_.here hx rfl (hC e18_85.1) rfl ?_
                        refine XS.bipush X7_.here hx rfl (hC e18_85.2.1) ?_
                        refine XS.icmpNo X7_.here hx rfl (hC e18_85.2.2.1) rfl (feq (hm7 : ¬ ((own_ch (f (1 : Int32))) = (95 : Int32)))).1 ?_
                        refine XS.iloadN X7_.here hx rfl (hC e18_85.2.2.2) rfl ?_
                        refine XS.bipush X7_.here hx rfl (hC e18_92.1) ?_
                        refine XS.icmpNo X7_.here hx rfl (hC e18_92.2.1) rfl (feq (hm8 : ¬ ((own_ch (f (1 : Int32))) = (58 : Int32)))).1 ?_
                        refine XS.iloadN X7_.here hx rfl (hC e18_92.2.2.1) rfl ?_
                        refine XS.bipush X7_.here hx rfl (hC e18_92.2.2.2) ?_
                        refine XS.icmpNo X7_.here hx rfl (hC e18_100.1) rfl (teq (hm9 : (own_ch (f (1 : Int32))) = (45 : Int32))).2 ?_
                        refine XS.iconst X7_.here hx rfl (hC e18_80.2.2.1) ?_
                        refine XS.goto X7_.here hx rfl (pc0 := 104) (pc' := 108) rfl (hC e18_80.2.2.2) (by decide) (by decide) ?_
                        exact kK
                      · refine ⟨(0 : Int32), by rw [if_pos hm1, if_neg hm2, if_pos hm3, if_neg hm4, if_pos hm5, if_neg hm6, if_neg hm7, if_neg hm8, if_neg hm9], fun tT kK => ?_⟩
                        refine XS.iloadN X7_.here hx rfl (hC e18_39.2.2.1) rfl ?_
                        refine XS.bipush X7_.here hx rfl (hC e18_39.2.2.2) ?_
                        refine XS.icmpYes X7_.here hx rfl (pc0 := 46) (pc' := 55) rfl (hC e18_46.1) rfl (tlt (hm1 : (own_ch (f (1 : Int32))) < (65 : Int32))).1 (by decide) (by decide) ?_
                        refine XS.iloadN X7_.here hx rfl (hC e18_46.2.1) rfl ?_
                        refine XS.bipush X7_.here hx rfl (hC e18_46.2.2.1) ?_
                        refine XS.icmpNo X7_.here hx rfl (hC e18_46.2.2.2) rfl (flt (hm2 : ¬ ((own_ch (f (1 : Int32))) < (97 : Int32)))).1 ?_
                        refine XS.iloadN X7_.here hx rfl (hC e18_76.2.1) rfl ?_
                        refine XS.bipush X7_.here hx rfl (hC e18_76.2.2.1) ?_
                        refine XS.icmpNo X7_.here hx rfl (hC e18_76.2.2.2) rfl (tlt (hm3 : (122 : Int32) < (own_ch (f (1 : Int32))))).2.2.2 ?_
                        refine XS.iloadN X7_.here hx rfl (hC e18_67.1) rfl ?_
                        refine XS.bipush X7_.here hx rfl (hC e18_67.2.1) ?_
                        show Steps pP.tables eE below (T7_.setTop (mkF mM 70 ll5 [(.int (48 : Int32)), (.int (own_ch (f (1 : Int32))))])) tT
                        refine XS.icmpNo X7_.here hx rfl (hC e18_67.2.2.1) rfl (flt (hm4 : ¬ ((own_ch (f (1 : Int32))) < (48 : Int32)))).1 ?_
                        refine XS.iloadN X7_.here hx rfl (hC e18_100.2.2.1) rfl ?_
                        refine XS.bipush X7_.here hx rfl (hC e18_100.2.2.2) ?_
                        refine XS.icmpNo X7_.here hx rfl (hC e18_76.1) rfl (tlt (hm5 : (57 : Int32) < (own_ch (f (1 : Int32))))).2.2.2 ?_
                        refine XS.iloadN X7_.here hx rfl (hC e18_67.2.2.2) rfl ?_
                        refine XS.bipush X7_.here hx rfl (hC e18_80.1) ?_
                        refine XS.icmpNo X7_.here hx rfl (hC e18_80.2.1) rfl (feq (hm6 : ¬ ((own_ch (f (1 : Int32))) = (46 : Int32)))).1 ?_
                        refine XS.iloadN X7_.here hx rfl (hC e18_85.1) rfl ?_
                        refine XS.bipush X7_.here hx rfl (hC e18_85.2.1) ?_
                        refine XS.icmpNo X7_.here hx rfl (hC e18_85.2.2.1) rfl (feq (hm7 : ¬ ((own_ch (f (1 : Int32))) = (95 : Int32)))).1 ?_
                        refine XS.iloadN X7_.here hx rfl (hC e18_85.2.2.2) rfl ?_
                        refine XS.bipush X7_.here hx rfl (hC e18_92.1) ?_
                        refine XS.icmpNo X7_.here hx rfl (hC e18_92.2.1) rfl (feq (hm8 : ¬ ((own_ch (f (1 : Int32))) = (58 : Int32)))).1 ?_
                        refine XS.iloadN X7_.here hx rfl (hC e18_92.2.2.1) rfl ?_
                        refine XS.bipush X7_.here hx rfl (hC e18_92.2.2.2) ?_
                        refine XS.icmpYes X7_.here hx rfl (pc0 := 100) (pc' := 107) rfl (hC e18_100.1) rfl (feq (hm9 : ¬ ((own_ch (f (1 : Int32))) = (45 : Int32)))).2 (by decide) (by decide) ?_
                        refine XS.iconst X7_.here hx rfl (hC e18_100.2.1) ?_
                        exact kK
              · refine ⟨(1 : Int32), by rw [if_pos hm1, if_neg hm2, if_pos hm3, if_neg hm4, if_neg hm5], fun tT kK => ?_⟩
                refine XS.iloadN X7_.here hx rfl (hC e18_39.2.2.1) rfl ?_
                refine XS.bipush X7_.here hx rfl (hC e18_39.2.2.2) ?_
                refine XS.icmpYes X7_.here hx rfl (pc0 := 46) (pc' := 55) rfl (hC e18_46.1) rfl (tlt (hm1 : (own_ch (f (1 : Int32))) < (65 : Int32))).1 (by decide) (by decide) ?_
                refine XS.iloadN X7_.here hx rfl (hC e18_46.2.1) rfl ?_
                refine XS.bipush X7_.here hx rfl (hC e18_46.2.2.1) ?_
                refine XS.icmpNo X7_.here hx rfl (hC e18_46.2.2.2) rfl (flt (hm2 : ¬ ((own_ch (f (1 : Int32))) < (97 : Int32)))).1 ?_
                refine XS.iloadN X7_.here hx rfl (hC e18_76.2.1) rfl ?_
                refine XS.bipush X7_.here hx rfl (hC e18_76.2.2.1) ?_
                refine XS.icmpNo X7_.here hx rfl (hC e18_76.2.2.2) rfl (tlt (hm3 : (122 : Int32) < (own_ch (f (1 : Int32))))).2.2.2 ?_
                refine XS.iloadN X7_.here hx rfl (hC e18_67.1) rfl ?_
                refine XS.bipush X7_.here hx rfl (hC e18_67.2.1) ?_
                show Steps pP.tables eE below (T7_.setTop (mkF mM 70 ll5 [(.int (48 : Int32)), (.int (own_ch (f (1 : Int32))))])) tT
                refine XS.icmpNo X7_.here hx rfl (hC e18_67.2.2.1) rfl (flt (hm4 : ¬ ((own_ch (f (1 : Int32))) < (48 : Int32)))).1 ?_
                refine XS.iloadN X7_.here hx rfl (hC e18_100.2.2.1) rfl ?_
                refine XS.bipush X7_.here hx rfl (hC e18_100.2.2.2) ?_
                refine XS.icmpYes X7_.here hx rfl (pc0 := 76) (pc' := 103) rfl (hC e18_76.1) rfl (flt (hm5 : ¬ ((57 : Int32) < (own_ch (f (1 : Int32)))))).2.2.2 (by decide) (by decide) ?_
                refine XS.iconst X7_.here hx rfl (hC e18_80.2.2.1) ?_
                refine XS.goto X7_.here hx rfl (pc0 := 104) (pc' := 108) rfl (hC e18_80.2.2.2) (by decide) (by decide) ?_
                exact kK
          · refine ⟨(1 : Int32), by rw [if_pos hm1, if_neg hm2, if_neg hm3], fun tT kK => ?_⟩
            refine XS.iloadN X7_.here hx rfl (hC e18_39.2.2.1) rfl ?_
            refine XS.bipush X7_.here hx rfl (hC e18_39.2.2.2) ?_
            refine XS.icmpYes X7_.here hx rfl (pc0 := 46) (pc' := 55) rfl (hC e18_46.1) rfl (tlt (hm1 : (own_ch (f (1 : Int32))) < (65 : Int32))).1 (by decide) (by decide) ?_
            refine XS.iloadN X7_.here hx rfl (hC e18_46.2.1) rfl ?_
            refine XS.bipush X7_.here hx rfl (hC e18_46.2.2.1) ?_
            refine XS.icmpNo X7_.here hx rfl (hC e18_46.2.2.2) rfl (flt (hm2 : ¬ ((own_ch (f (1 : Int32))) < (97 : Int32)))).1 ?_
            refine XS.iloadN X7_.here hx rfl (hC e18_76.2.1) rfl ?_
            refine XS.bipush X7_.here hx rfl (hC e18_76.2.2.1) ?_
            refine XS.icmpYes X7_.here hx rfl (pc0 := 64) (pc' := 103) rfl (hC e18_76.2.2.2) rfl (flt (hm3 : ¬ ((122 : Int32) < (own_ch (f (1 : Int32)))))).2.2.2 (by decide) (by decide) ?_
            refine XS.iconst X7_.here hx rfl (hC e18_80.2.2.1) ?_
            refine XS.goto X7_.here hx rfl (pc0 := 104) (pc' := 108) rfl (hC e18_80.2.2.2) (by decide) (by decide) ?_
            show Steps pP.tables eE below (T7_.setTop (mkF mM 108 ll5 [(.int (1 : Int32))])) tT
            exact kK
      · by_cases hm2 : (90 : Int32) < (own_ch (f (1 : Int32)))
        · by_cases hm3 : (own_ch (f (1 : Int32))) < (97 : Int32)
          · by_cases hm4 : (own_ch (f (1 : Int32))) < (48 : Int32)
            · by_cases hm5 : (own_ch (f (1 : Int32))) = (46 : Int32)
              · refine ⟨(1 : Int32), by rw [if_neg hm1, if_pos hm2, if_pos hm3, if_pos hm4, if_pos hm5], fun tT kK => ?_⟩
                refine XS.iloadN X7_.here hx rfl (hC e18_39.2.2.1) rfl ?_
                refine XS.bipush X7_.here hx rfl (hC e18_39.2.2.2) ?_
                refine XS.icmpNo X7_.here hx rfl (hC e18_46.1) rfl (flt (hm1 : ¬ ((own_ch (f (1 : Int32))) < (65 : Int32)))).1 ?_
                refine XS.iloadN X7_.here hx rfl (hC e18_49.1) rfl ?_
                refine XS.bipush X7_.here hx rfl (hC e18_49.2.1) ?_
                refine XS.icmpNo X7_.here hx rfl (hC e18_49.2.2.1) rfl (tlt (hm2 : (90 : Int32) < (own_ch (f (1 : Int32))))).2.2.2 ?_
                refine XS.iloadN X7_.here hx rfl (hC e18_46.2.1) rfl ?_
                refine XS.bipush X7_.here hx rfl (hC e18_46.2.2.1) ?_
                refine XS.icmpYes X7_.here hx rfl (pc0 := 58) (pc' := 67) rfl (hC e18_46.2.2.2) rfl (tlt (hm3 : (own_ch (f (1 : Int32))) < (97 : Int32))).1 (by decide) (by decide) ?_
                refine XS.iloadN X7_.here hx rfl (hC e18_67.1) rfl ?_
                refine XS.bipush X7_.here hx rfl (hC e18_67.2.1) ?_
                show Steps pP.tables eE below (T7_.setTop (mkF mM 70 ll5 [(.int (48 : Int32)), (.int (own_ch (f (1 : Int32))))])) tT
                refine XS.icmpYes X7_.here hx rfl (pc0 := 70) (pc' := 79) rfl (hC e18_67.2.2.1) rfl (tlt (hm4 : (own_ch (f (1 : Int32))) < (48 : Int32))).1 (by decide) (by decide) ?_
                refine XS.iloadN X7_.here hx rfl (hC e18_67.2.2.2) rfl ?_
                refine XS.bipush X7_.here hx rfl (hC e18_80.1) ?_
                refine XS.icmpYes X7_.here hx rfl (pc0 := 82) (pc' := 103) rfl (hC e18_80.2.1) rfl (teq (hm5 : (own_ch (f (1 : Int32))) = (46 : Int32))).1 (by decide) (by decide) ?_
                refine XS.iconst X7_.here hx rfl (hC e18_80.2.2.1) ?_
                refine XS.goto X7_.here hx rfl (pc0 := 104) (pc' := 108) rfl (hC e18_80.2.2.2) (by decide) (by decide) ?_
                exact kK
              · by_cases hm6 : (own_ch (f (1 : Int32))) = (95 : Int32)
                · refine ⟨(1 : Int32), by rw [if_neg hm1, if_pos hm2, if_pos hm3, if_pos hm4, if_neg hm5, if_pos hm6], fun tT kK => ?_⟩
                  refine XS.iloadN X7_.here hx rfl (hC e18_39.2.2.1) rfl ?_
                  refine XS.bipush X7_.here hx rfl (hC e18_39.2.2.2) ?_
                  refine XS.icmpNo X7_.here hx rfl (hC e18_46.1) rfl (flt (hm1 : ¬ ((own_ch (f (1 : Int32))) < (65 : Int32)))).1 ?_
                  refine XS.iloadN X7_.here hx rfl (hC e18_49.1) rfl ?_
                  refine XS.bipush X7_.here hx rfl (hC e18_49.2.1) ?_
                  refine XS.icmpNo X7_.here hx rfl (hC e18_49.2.2.1) rfl (tlt (hm2 : (90 : Int32) < (own_ch (f (1 : Int32))))).2.2.2 ?_
                  refine XS.iloadN X7_.here hx rfl (hC e18_46.2.1) rfl ?_
                  refine XS.bipush X7_.here hx rfl (hC e18_46.2.2.1) ?_
                  refine XS.icmpYes X7_.here hx rfl (pc0 := 58) (pc' := 67) rfl (hC e18_46.2.2.2) rfl (tlt (hm3 : (own_ch (f (1 : Int32))) < (97 : Int32))).1 (by decide) (by decide) ?_
                  refine XS.iloadN X7_.here hx rfl (hC e18_67.1) rfl ?_
                  refine XS.bipush X7_.here hx rfl (hC e18_67.2.1) ?_
                  show Steps pP.tables eE below (T7_.setTop (mkF mM 70 ll5 [(.int (48 : Int32)), (.int (own_ch (f (1 : Int32))))])) tT
                  refine XS.icmpYes X7_.here hx rfl (pc0 := 70) (pc' := 79) rfl (hC e18_67.2.2.1) rfl (tlt (hm4 : (own_ch (f (1 : Int32))) < (48 : Int32))).1 (by decide) (by decide) ?_
                  refine XS.iloadN X7_.here hx rfl (hC e18_67.2.2.2) rfl ?_
                  refine XS.bipush X7_.here hx rfl (hC e18_80.1) ?_
                  refine XS.icmpNo X7_.here hx rfl (hC e18_80.2.1) rfl (feq (hm5 : ¬ ((own_ch (f (1 : Int32))) = (46 : Int32)))).1 ?_
                  refine XS.iloadN X7_.here hx rfl (hC e18_85.1) rfl ?_
                  refine XS.bipush X7_.here hx rfl (hC e18_85.2.1) ?_
                  refine XS.icmpYes X7_.here hx rfl (pc0 := 88) (pc' := 103) rfl (hC e18_85.2.2.1) rfl (teq (hm6 : (own_ch (f (1 : Int32))) = (95 : Int32))).1 (by decide) (by decide) ?_
                  refine XS.iconst X7_.here hx rfl (hC e18_80.2.2.1) ?_
                  refine XS.goto X7_.here hx rfl (pc0 := 104) (pc' := 108) rfl (hC e18_80.2.2.2) (by decide) (by decide) ?_
                  exact kK
                · by_cases hm7 : (own_ch (f (1 : Int32))) = (58 : Int32)
                  · refine ⟨(1 : Int32), by rw [if_neg hm1, if_pos hm2, if_pos hm3, if_pos hm4, if_neg hm5, if_neg hm6, if_pos hm7], fun tT kK => ?_⟩
                    refine XS.iloadN X7_.here hx rfl (hC e18_39.2.2.1) rfl ?_
                    refine XS.bipush X7_.here hx rfl (hC e18_39.2.2.2) ?_
                    refine XS.icmpNo X7_.here hx rfl (hC e18_46.1) rfl (flt (hm1 : ¬ ((own_ch (f (1 : Int32))) < (65 : Int32)))).1 ?_
                    refine XS.iloadN X7_.here hx rfl (hC e18_49.1) rfl ?_
                    refine XS.bipush X7_.here hx rfl (hC e18_49.2.1) ?_
                    refine XS.icmpNo X7_.here hx rfl (hC e18_49.2.2.1) rfl (tlt (hm2 : (90 : Int32) < (own_ch (f (1 : Int32))))).2.2.2 ?_
                    refine XS.iloadN X7_.here hx rfl (hC e18_46.2.1) rfl ?_
                    refine XS.bipush X7_.here hx rfl (hC e18_46.2.2.1) ?_
                    refine XS.icmpYes X7_.here hx rfl (pc0 := 58) (pc' := 67) rfl (hC e18_46.2.2.2) rfl (tlt (hm3 : (own_ch (f (1 : Int32))) < (97 : Int32))).1 (by decide) (by decide) ?_
                    refine XS.iloadN X7_.here hx rfl (hC e18_67.1) rfl ?_
                    refine XS.bipush X7_.here hx rfl (hC e18_67.2.1) ?_
                    show Steps pP.tables eE below (T7_.setTop (mkF mM 70 ll5 [(.int (48 : Int32)), (.int (own_ch (f (1 : Int32))))])) tT
                    refine XS.icmpYes X7_.here hx rfl (pc0 := 70) (pc' := 79) rfl (hC e18_67.2.2.1) rfl (tlt (hm4 : (own_ch (f (1 : Int32))) < (48 : Int32))).1 (by decide) (by decide) ?_
                    refine XS.iloadN X7_.here hx rfl (hC e18_67.2.2.2) rfl ?_
                    refine XS.bipush X7_.here hx rfl (hC e18_80.1) ?_
                    refine XS.icmpNo X7_.here hx rfl (hC e18_80.2.1) rfl (feq (hm5 : ¬ ((own_ch (f (1 : Int32))) = (46 : Int32)))).1 ?_
                    refine XS.iloadN X7_.here hx rfl (hC e18_85.1) rfl ?_
                    refine XS.bipush X7_.here hx rfl (hC e18_85.2.1) ?_
                    refine XS.icmpNo X7_.here hx rfl (hC e18_85.2.2.1) rfl (feq (hm6 : ¬ ((own_ch (f (1 : Int32))) = (95 : Int32)))).1 ?_
                    refine XS.iloadN X7_.here hx rfl (hC e18_85.2.2.2) rfl ?_
                    refine XS.bipush X7_.here hx rfl (hC e18_92.1) ?_
                    refine XS.icmpYes X7_.here hx rfl (pc0 := 94) (pc' := 103) rfl (hC e18_92.2.1) rfl (teq (hm7 : (own_ch (f (1 : Int32))) = (58 : Int32))).1 (by decide) (by decide) ?_
                    refine XS.iconst X7_.here hx rfl (hC e18_80.2.2.1) ?_
                    refine XS.goto X7_.here hx rfl (pc0 := 104) (pc' := 108) rfl (hC e18_80.2.2.2) (by decide) (by decide) ?_
                    exact kK
                  · by_cases hm8 : (own_ch (f (1 : Int32))) = (45 : Int32)
                    · refine ⟨(1 : Int32), by rw [if_neg hm1, if_pos hm2, if_pos hm3, if_pos hm4, if_neg hm5, if_neg hm6, if_neg hm7, if_pos hm8], fun tT kK => ?_⟩
                      refine XS.iloadN X7_.here hx rfl (hC e18_39.2.2.1) rfl ?_
                      refine XS.bipush X7_.here hx rfl (hC e18_39.2.2.2) ?_
                      refine XS.icmpNo X7_.here hx rfl (hC e18_46.1) rfl (flt (hm1 : ¬ ((own_ch (f (1 : Int32))) < (65 : Int32)))).1 ?_
                      refine XS.iloadN X7_.here hx rfl (hC e18_49.1) rfl ?_
                      refine XS.bipush X7_.here hx rfl (hC e18_49.2.1) ?_
                      refine XS.icmpNo X7_.here hx rfl (hC e18_49.2.2.1) rfl (tlt (hm2 : (90 : Int32) < (own_ch (f (1 : Int32))))).2.2.2 ?_
                      refine XS.iloadN X7_.here hx rfl (hC e18_46.2.1) rfl ?_
                      refine XS.bipush X7_.here hx rfl (hC e18_46.2.2.1) ?_
                      refine XS.icmpYes X7_.here hx rfl (pc0 := 58) (pc' := 67) rfl (hC e18_46.2.2.2) rfl (tlt (hm3 : (own_ch (f (1 : Int32))) < (97 : Int32))).1 (by decide) (by decide) ?_
                      refine XS.iloadN X7_.here hx rfl (hC e18_67.1) rfl ?_
                      refine XS.bipush X7_.here hx rfl (hC e18_67.2.1) ?_
                      show Steps pP.tables eE below (T7_.setTop (mkF mM 70 ll5 [(.int (48 : Int32)), (.int (own_ch (f (1 : Int32))))])) tT
                      refine XS.icmpYes X7_.here hx rfl (pc0 := 70) (pc' := 79) rfl (hC e18_67.2.2.1) rfl (tlt (hm4 : (own_ch (f (1 : Int32))) < (48 : Int32))).1 (by decide) (by decide) ?_
                      refine XS.iloadN X7_.here hx rfl (hC e18_67.2.2.2) rfl ?_
                      refine XS.bipush X7_.here hx rfl (hC e18_80.1) ?_
                      refine XS.icmpNo X7_.here hx rfl (hC e18_80.2.1) rfl (feq (hm5 : ¬ ((own_ch (f (1 : Int32))) = (46 : Int32)))).1 ?_
                      refine XS.iloadN X7_.here hx rfl (hC e18_85.1) rfl ?_
                      refine XS.bipush X7_.here hx rfl (hC e18_85.2.1) ?_
                      refine XS.icmpNo X7_.here hx rfl (hC e18_85.2.2.1) rfl (feq (hm6 : ¬ ((own_ch (f (1 : Int32))) = (95 : Int32)))).1 ?_
                      refine XS.iloadN X7_.here hx rfl (hC e18_85.2.2.2) rfl ?_
                      refine XS.bipush X7_.here hx rfl (hC e18_92.1) ?_
                      refine XS.icmpNo X7_.here hx rfl (hC e18_92.2.1) rfl (feq (hm7 : ¬ ((own_ch (f (1 : Int32))) = (58 : Int32)))).1 ?_
                      refine XS.iloadN X7_.here hx rfl (hC e18_92.2.2.1) rfl ?_
                      refine XS.bipush X7_.here hx rfl (hC e18_92.2.2.2) ?_
                      refine XS.icmpNo X7_.here hx rfl (hC e18_100.1) rfl (teq (hm8 : (own_ch (f (1 : Int32))) = (45 : Int32))).2 ?_
                      refine XS.iconst X7_.here hx rfl (hC e18_80.2.2.1) ?_
                      refine XS.goto X7_.here hx rfl (pc0 := 104) (pc' := 108) rfl (hC e18_80.2.2.2) (by decide) (by decide) ?_
                      exact kK
                    · refine ⟨(0 : Int32), by rw [if_neg hm1, if_pos hm2, if_pos hm3, if_pos hm4, if_neg hm5, if_neg hm6, if_neg hm7, if_neg hm8], fun tT kK => ?_⟩
                      refine XS.iloadN X7_.here hx rfl (hC e18_39.2.2.1) rfl ?_
                      refine XS.bipush X7_.here hx rfl (hC e18_39.2.2.2) ?_
                      refine XS.icmpNo X7_.here hx rfl (hC e18_46.1) rfl (flt (hm1 : ¬ ((own_ch (f (1 : Int32))) < (65 : Int32)))).1 ?_
                      refine XS.iloadN X7_.here hx rfl (hC e18_49.1) rfl ?_
                      refine XS.bipush X7_.here hx rfl (hC e18_49.2.1) ?_
                      refine XS.icmpNo X7_.here hx rfl (hC e18_49.2.2.1) rfl (tlt (hm2 : (90 : Int32) < (own_ch (f (1 : Int32))))).2.2.2 ?_
                      refine XS.iloadN X7_.here hx rfl (hC e18_46.2.1) rfl ?_
                      refine XS.bipush X7_.here hx rfl (hC e18_46.2.2.1) ?_
                      refine XS.icmpYes X7_.here hx rfl (pc0 := 58) (pc' := 67) rfl (hC e18_46.2.2.2) rfl (tlt (hm3 : (own_ch (f (1 : Int32))) < (97 : Int32))).1 (by decide) (by decide) ?_
                      refine XS.iloadN X7_.here hx rfl (hC e18_67.1) rfl ?_
                      refine XS.bipush X7_.here hx rfl (hC e18_67.2.1) ?_
                      show Steps pP.tables eE below (T7_.setTop (mkF mM 70 ll5 [(.int (48 : Int32)), (.int (own_ch (f (1 : Int32))))])) tT
                      refine XS.icmpYes X7_.here hx rfl (pc0 := 70) (pc' := 79) rfl (hC e18_67.2.2.1) rfl (tlt (hm4 : (own_ch (f (1 : Int32))) < (48 : Int32))).1 (by decide) (by decide) ?_
                      refine XS.iloadN X7_.here hx rfl (hC e18_67.2.2.2) rfl ?_
                      refine XS.bipush X7_.here hx rfl (hC e18_80.1) ?_
                      refine XS.icmpNo X7_.here hx rfl (hC e18_80.2.1) rfl (feq (hm5 : ¬ ((own_ch (f (1 : Int32))) = (46 : Int32)))).1 ?_
                      refine XS.iloadN X7_.here hx rfl (hC e18_85.1) rfl ?_
                      refine XS.bipush X7_.here hx rfl (hC e18_85.2.1) ?_
                      refine XS.icmpNo X7_.here hx rfl (hC e18_85.2.2.1) rfl (feq (hm6 : ¬ ((own_ch (f (1 : Int32))) = (95 : Int32)))).1 ?_
                      refine XS.iloadN X7_.here hx rfl (hC e18_85.2.2.2) rfl ?_
                      refine XS.bipush X7_.here hx rfl (hC e18_92.1) ?_
                      refine XS.icmpNo X7_.here hx rfl (hC e18_92.2.1) rfl (feq (hm7 : ¬ ((own_ch (f (1 : Int32))) = (58 : Int32)))).1 ?_
                      refine XS.iloadN X7_.here hx rfl (hC e18_92.2.2.1) rfl ?_
                      refine XS.bipush X7_.here hx rfl (hC e18_92.2.2.2) ?_
                      refine XS.icmpYes X7_.here hx rfl (pc0 := 100) (pc' := 107) rfl (hC e18_100.1) rfl (feq (hm8 : ¬ ((own_ch (f (1 : Int32))) = (45 : Int32)))).2 (by decide) (by decide) ?_
                      refine XS.iconst X7_.here hx rfl (hC e18_100.2.1) ?_
                      exact kK
            · by_cases hm5 : (57 : Int32) < (own_ch (f (1 : Int32)))
              · by_cases hm6 : (own_ch (f (1 : Int32))) = (46 : Int32)
                · refine ⟨(1 : Int32), by rw [if_neg hm1, if_pos hm2, if_pos hm3, if_neg hm4, if_pos hm5, if_pos hm6], fun tT kK => ?_⟩
                  refine XS.iloadN X7_.here hx rfl (hC e18_39.2.2.1) rfl ?_
                  refine XS.bipush X7_.here hx rfl (hC e18_39.2.2.2) ?_
                  refine XS.icmpNo X7_.here hx rfl (hC e18_46.1) rfl (flt (hm1 : ¬ ((own_ch (f (1 : Int32))) < (65 : Int32)))).1 ?_
                  refine XS.iloadN X7_.here hx rfl (hC e18_49.1) rfl ?_
                  refine XS.bipush X7_.here hx rfl (hC e18_49.2.1) ?_
                  refine XS.icmpNo X7_.here hx rfl (hC e18_49.2.2.1) rfl (tlt (hm2 : (90 : Int32) < (own_ch (f (1 : Int32))))).2.2.2 ?_
                  refine XS.iloadN X7_.here hx rfl (hC e18_46.2.1) rfl ?_
                  refine XS.bipush X7_.here hx rfl (hC e18_46.2.2.1) ?_
                  refine XS.icmpYes X7_.here hx rfl (pc0 := 58) (pc' := 67) rfl (hC e18_46.2.2.2) rfl (tlt (hm3 : (own_ch (f (1 : Int32))) < (97 : Int32))).1 (by decide) (by decide) ?_
                  refine XS.iloadN X7_.here hx rfl (hC e18_67.1) rfl ?_
                  refine XS.bipush X7_.here hx rfl (hC e18_67.2.1) ?_
                  show Steps pP.tables eE below (T7_.setTop (mkF mM 70 ll5 [(.int (48 : Int32)), (.int (own_ch (f (1 : Int32))))])) tT
                  refine XS.icmpNo X7_.here hx rfl (hC e18_67.2.2.1) rfl (flt (hm4 : ¬ ((own_ch (f (1 : Int32))) < (48 : Int32)))).1 ?_
                  refine XS.iloadN X7_.here hx rfl (hC e18_100.2.2.1) rfl ?_
                  refine XS.bipush X7_.here hx rfl (hC e18_100.2.2.2) ?_
                  refine XS.icmpNo X7_.here hx rfl (hC e18_76.1) rfl (tlt (hm5 : (57 : Int32) < (own_ch (f (1 : Int32))))).2.2.2 ?_
                  refine XS.iloadN X7_.here hx rfl (hC e18_67.2.2.2) rfl ?_
                  refine XS.bipush X7_.here hx rfl (hC e18_80.1) ?_
                  refine XS.icmpYes X7_.here hx rfl (pc0 := 82) (pc' := 103) rfl (hC e18_80.2.1) rfl (teq (hm6 : (own_ch (f (1 : Int32))) = (46 : Int32))).1 (by decide) (by decide) ?_
                  refine XS.iconst X7_.here hx rfl (hC e18_80.2.2.1) ?_
                  refine XS.goto X7_.here hx rfl (pc0 := 104) (pc' := 108) rfl (hC e18_80.2.2.2) (by decide) (by decide) ?_
                  exact kK
                · by_cases hm7 : (own_ch (f (1 : Int32))) = (95 : Int32)
                  · refine ⟨(1 : Int32), by rw [if_neg hm1, if_pos hm2, if_pos hm3, if_neg hm4, if_pos hm5, if_neg hm6, if_pos hm7], fun tT kK => ?_⟩
                    refine XS.iloadN X7_.here hx rfl (hC e18_39.2.2.1) rfl ?_
                    refine XS.bipush X7_.here hx rfl (hC e18_39.2.2.2) ?_
                    refine XS.icmpNo X7_.here hx rfl (hC e18_46.1) rfl (flt (hm1 : ¬ ((own_ch (f (1 : Int32))) < (65 : Int32)))).1 ?_
                    refine XS.iloadN X7_.here hx rfl (hC e18_49.1) rfl ?_
                    refine XS.bipush X7_.here hx rfl (hC e18_49.2.1) ?_
                    refine XS.icmpNo X7_.here hx rfl (hC e18_49.2.2.1) rfl (tlt (hm2 : (90 : Int32) < (own_ch (f (1 : Int32))))).2.2.2 ?_
                    refine XS.iloadN X7_.here hx rfl (hC e18_46.2.1) rfl ?_
                    refine XS.bipush X7_.here hx rfl (hC e18_46.2.2.1) ?_
                    refine XS.icmpYes X7_.here hx rfl (pc0 := 58) (pc' := 67) rfl (hC e18_46.2.2.2) rfl (tlt (hm3 : (own_ch (f (1 : Int32))) < (97 : Int32))).1 (by decide) (by decide) ?_
                    refine XS.iloadN X7_.here hx rfl (hC e18_67.1) rfl ?_
                    refine XS.bipush X7_.here hx rfl (hC e18_67.2.1) ?_
                    show Steps pP.tables eE below (T7_.setTop (mkF mM 70 ll5 [(.int (48 : Int32)), (.int (own_ch (f (1 : Int32))))])) tT
                    refine XS.icmpNo X7_.here hx rfl (hC e18_67.2.2.1) rfl (flt (hm4 : ¬ ((own_ch (f (1 : Int32))) < (48 : Int32)))).1 ?_
                    refine XS.iloadN X7_.here hx rfl (hC e18_100.2.2.1) rfl ?_
                    refine XS.bipush X7_.here hx rfl (hC e18_100.2.2.2) ?_
                    refine XS.icmpNo X7_.here hx rfl (hC e18_76.1) rfl (tlt (hm5 : (57 : Int32) < (own_ch (f (1 : Int32))))).2.2.2 ?_
                    refine XS.iloadN X7_.here hx rfl (hC e18_67.2.2.2) rfl ?_
                    refine XS.bipush X7_.here hx rfl (hC e18_80.1) ?_
                    refine XS.icmpNo X7_.here hx rfl (hC e18_80.2.1) rfl (feq (hm6 : ¬ ((own_ch (f (1 : Int32))) = (46 : Int32)))).1 ?_
                    refine XS.iloadN X7_.here hx rfl (hC e18_85.1) rfl ?_
                    refine XS.bipush X7_.here hx rfl (hC e18_85.2.1) ?_
                    refine XS.icmpYes X7_.here hx rfl (pc0 := 88) (pc' := 103) rfl (hC e18_85.2.2.1) rfl (teq (hm7 : (own_ch (f (1 : Int32))) = (95 : Int32))).1 (by decide) (by decide) ?_
                    refine XS.iconst X7_.here hx rfl (hC e18_80.2.2.1) ?_
                    refine XS.goto X7_.here hx rfl (pc0 := 104) (pc' := 108) rfl (hC e18_80.2.2.2) (by decide) (by decide) ?_
                    exact kK
                  · by_cases hm8 : (own_ch (f (1 : Int32))) = (58 : Int32)
                    · refine ⟨(1 : Int32), by rw [if_neg hm1, if_pos hm2, if_pos hm3, if_neg hm4, if_pos hm5, if_neg hm6, if_neg hm7, if_pos hm8], fun tT kK => ?_⟩
                      refine XS.iloadN X7_.here hx rfl (hC e18_39.2.2.1) rfl ?_
                      refine XS.bipush X7_.here hx rfl (hC e18_39.2.2.2) ?_
                      refine XS.icmpNo X7_.here hx rfl (hC e18_46.1) rfl (flt (hm1 : ¬ ((own_ch (f (1 : Int32))) < (65 : Int32)))).1 ?_
                      refine XS.iloadN X7_.here hx rfl (hC e18_49.1) rfl ?_
                      refine XS.bipush X7_.here hx rfl (hC e18_49.2.1) ?_
                      refine XS.icmpNo X7_.here hx rfl (hC e18_49.2.2.1) rfl (tlt (hm2 : (90 : Int32) < (own_ch (f (1 : Int32))))).2.2.2 ?_
                      refine XS.iloadN X7_.here hx rfl (hC e18_46.2.1) rfl ?_
                      refine XS.bipush X7_.here hx rfl (hC e18_46.2.2.1) ?_
                      refine XS.icmpYes X7_.here hx rfl (pc0 := 58) (pc' := 67) rfl (hC e18_46.2.2.2) rfl (tlt (hm3 : (own_ch (f (1 : Int32))) < (97 : Int32))).1 (by decide) (by decide) ?_
                      refine XS.iloadN X7_.here hx rfl (hC e18_67.1) rfl ?_
                      refine XS.bipush X7_.here hx rfl (hC e18_67.2.1) ?_
                      show Steps pP.tables eE below (T7_.setTop (mkF mM 70 ll5 [(.int (48 : Int32)), (.int (own_ch (f (1 : Int32))))])) tT
                      refine XS.icmpNo X7_.here hx rfl (hC e18_67.2.2.1) rfl (flt (hm4 : ¬ ((own_ch (f (1 : Int32))) < (48 : Int32)))).1 ?_
                      refine XS.iloadN X7_.here hx rfl (hC e18_100.2.2.1) rfl ?_
                      refine XS.bipush X7_.here hx rfl (hC e18_100.2.2.2) ?_
                      refine XS.icmpNo X7_.here hx rfl (hC e18_76.1) rfl (tlt (hm5 : (57 : Int32) < (own_ch (f (1 : Int32))))).2.2.2 ?_
                      refine XS.iloadN X7_.here hx rfl (hC e18_67.2.2.2) rfl ?_
                      refine XS.bipush X7_.here hx rfl (hC e18_80.1) ?_
                      refine XS.icmpNo X7_.here hx rfl (hC e18_80.2.1) rfl (feq (hm6 : ¬ ((own_ch (f (1 : Int32))) = (46 : Int32)))).1 ?_
                      refine XS.iloadN X7_.here hx rfl (hC e18_85.1) rfl ?_
                      refine XS.bipush X7_.here hx rfl (hC e18_85.2.1) ?_
                      refine XS.icmpNo X7_.here hx rfl (hC e18_85.2.2.1) rfl (feq (hm7 : ¬ ((own_ch (f (1 : Int32))) = (95 : Int32)))).1 ?_
                      refine XS.iloadN X7_.here hx rfl (hC e18_85.2.2.2) rfl ?_
                      refine XS.bipush X7_.here hx rfl (hC e18_92.1) ?_
                      refine XS.icmpYes X7_.here hx rfl (pc0 := 94) (pc' := 103) rfl (hC e18_92.2.1) rfl (teq (hm8 : (own_ch (f (1 : Int32))) = (58 : Int32))).1 (by decide) (by decide) ?_
                      refine XS.iconst X7_.here hx rfl (hC e18_80.2.2.1) ?_
                      refine XS.goto X7_.here hx rfl (pc0 := 104) (pc' := 108) rfl (hC e18_80.2.2.2) (by decide) (by decide) ?_
                      exact kK
                    · by_cases hm9 : (own_ch (f (1 : Int32))) = (45 : Int32)
                      · refine ⟨(1 : Int32), by rw [if_neg hm1, if_pos hm2, if_pos hm3, if_neg hm4, if_pos hm5, if_neg hm6, if_neg hm7, if_neg hm8, if_pos hm9], fun tT kK => ?_⟩
                        refine XS.iloadN X7_.here hx rfl (hC e18_39.2.2.1) rfl ?_
                        refine XS.bipush X7_.here hx rfl (hC e18_39.2.2.2) ?_
                        refine XS.icmpNo X7_.here hx rfl (hC e18_46.1) rfl (flt (hm1 : ¬ ((own_ch (f (1 : Int32))) < (65 : Int32)))).1 ?_
                        refine XS.iloadN X7_.here hx rfl (hC e18_49.1) rfl ?_
                        refine XS.bipush X7_.here hx rfl (hC e18_49.2.1) ?_
                        refine XS.icmpNo X7_.here hx rfl (hC e18_49.2.2.1) rfl (tlt (hm2 : (90 : Int32) < (own_ch (f (1 : Int32))))).2.2.2 ?_
                        refine XS.iloadN X7_.here hx rfl (hC e18_46.2.1) rfl ?_
                        refine XS.bipush X7_.here hx rfl (hC e18_46.2.2.1) ?_
                        refine XS.icmpYes X7_.here hx rfl (pc0 := 58) (pc' := 67) rfl (hC e18_46.2.2.2) rfl (tlt (hm3 : (own_ch (f (1 : Int32))) < (97 : Int32))).1 (by decide) (by decide) ?_
                        refine XS.iloadN X7_.here hx rfl (hC e18_67.1) rfl ?_
                        refine XS.bipush X7_.here hx rfl (hC e18_67.2.1) ?_
                        show Steps pP.tables eE below (T7_.setTop (mkF mM 70 ll5 [(.int (48 : Int32)), (.int (own_ch (f (1 : Int32))))])) tT
                        refine XS.icmpNo X7_.here hx rfl (hC e18_67.2.2.1) rfl (flt (hm4 : ¬ ((own_ch (f (1 : Int32))) < (48 : Int32)))).1 ?_
                        refine XS.iloadN X7_.here hx rfl (hC e18_100.2.2.1) rfl ?_
                        refine XS.bipush X7_.here hx rfl (hC e18_100.2.2.2) ?_
                        refine XS.icmpNo X7_.here hx rfl (hC e18_76.1) rfl (tlt (hm5 : (57 : Int32) < (own_ch (f (1 : Int32))))).2.2.2 ?_
                        refine XS.iloadN X7_.here hx rfl (hC e18_67.2.2.2) rfl ?_
                        refine XS.bipush X7_.here hx rfl (hC e18_80.1) ?_
                        refine XS.icmpNo X7_.here hx rfl (hC e18_80.2.1) rfl (feq (hm6 : ¬ ((own_ch (f (1 : Int32))) = (46 : Int32)))).1 ?_
                        refine XS.iloadN X7_.here hx rfl (hC e18_85.1) rfl ?_
                        refine XS.bipush X7_.here hx rfl (hC e18_85.2.1) ?_
                        refine XS.icmpNo X7_.here hx rfl (hC e18_85.2.2.1) rfl (feq (hm7 : ¬ ((own_ch (f (1 : Int32))) = (95 : Int32)))).1 ?_
                        refine XS.iloadN X7_.here hx rfl (hC e18_85.2.2.2) rfl ?_
                        refine XS.bipush X7_.here hx rfl (hC e18_92.1) ?_
                        refine XS.icmpNo X7_.here hx rfl (hC e18_92.2.1) rfl (feq (hm8 : ¬ ((own_ch (f (1 : Int32))) = (58 : Int32)))).1 ?_
                        refine XS.iloadN X7_.here hx rfl (hC e18_92.2.2.1) rfl ?_
                        refine XS.bipush X7_.here hx rfl (hC e18_92.2.2.2) ?_
                        refine XS.icmpNo X7_.here hx rfl (hC e18_100.1) rfl (teq (hm9 : (own_ch (f (1 : Int32))) = (45 : Int32))).2 ?_
                        refine XS.iconst X7_.here hx rfl (hC e18_80.2.2.1) ?_
                        refine XS.goto X7_.here hx rfl (pc0 := 104) (pc' := 108) rfl (hC e18_80.2.2.2) (by decide) (by decide) ?_
                        exact kK
                      · refine ⟨(0 : Int32), by rw [if_neg hm1, if_pos hm2, if_pos hm3, if_neg hm4, if_pos hm5, if_neg hm6, if_neg hm7, if_neg hm8, if_neg hm9], fun tT kK => ?_⟩
                        refine XS.iloadN X7_.here hx rfl (hC e18_39.2.2.1) rfl ?_
                        refine XS.bipush X7_.here hx rfl (hC e18_39.2.2.2) ?_
                        refine XS.icmpNo X7_.here hx rfl (hC e18_46.1) rfl (flt (hm1 : ¬ ((own_ch (f (1 : Int32))) < (65 : Int32)))).1 ?_
                        refine XS.iloadN X7_.here hx rfl (hC e18_49.1) rfl ?_
                        refine XS.bipush X7_.here hx rfl (hC e18_49.2.1) ?_
                        refine XS.icmpNo X7_.here hx rfl (hC e18_49.2.2.1) rfl (tlt (hm2 : (90 : Int32) < (own_ch (f (1 : Int32))))).2.2.2 ?_
                        refine XS.iloadN X7_.here hx rfl (hC e18_46.2.1) rfl ?_
                        refine XS.bipush X7_.here hx rfl (hC e18_46.2.2.1) ?_
                        refine XS.icmpYes X7_.here hx rfl (pc0 := 58) (pc' := 67) rfl (hC e18_46.2.2.2) rfl (tlt (hm3 : (own_ch (f (1 : Int32))) < (97 : Int32))).1 (by decide) (by decide) ?_
                        refine XS.iloadN X7_.here hx rfl (hC e18_67.1) rfl ?_
                        refine XS.bipush X7_.here hx rfl (hC e18_67.2.1) ?_
                        show Steps pP.tables eE below (T7_.setTop (mkF mM 70 ll5 [(.int (48 : Int32)), (.int (own_ch (f (1 : Int32))))])) tT
                        refine XS.icmpNo X7_.here hx rfl (hC e18_67.2.2.1) rfl (flt (hm4 : ¬ ((own_ch (f (1 : Int32))) < (48 : Int32)))).1 ?_
                        refine XS.iloadN X7_.here hx rfl (hC e18_100.2.2.1) rfl ?_
                        refine XS.bipush X7_.here hx rfl (hC e18_100.2.2.2) ?_
                        refine XS.icmpNo X7_.here hx rfl (hC e18_76.1) rfl (tlt (hm5 : (57 : Int32) < (own_ch (f (1 : Int32))))).2.2.2 ?_
                        refine XS.iloadN X7_.here hx rfl (hC e18_67.2.2.2) rfl ?_
                        refine XS.bipush X7_.here hx rfl (hC e18_80.1) ?_
                        refine XS.icmpNo X7_.here hx rfl (hC e18_80.2.1) rfl (feq (hm6 : ¬ ((own_ch (f (1 : Int32))) = (46 : Int32)))).1 ?_
                        refine XS.iloadN X7_.here hx rfl (hC e18_85.1) rfl ?_
                        refine XS.bipush X7_.here hx rfl (hC e18_85.2.1) ?_
                        refine XS.icmpNo X7_.here hx rfl (hC e18_85.2.2.1) rfl (feq (hm7 : ¬ ((own_ch (f (1 : Int32))) = (95 : Int32)))).1 ?_
                        refine XS.iloadN X7_.here hx rfl (hC e18_85.2.2.2) rfl ?_
                        refine XS.bipush X7_.here hx rfl (hC e18_92.1) ?_
                        refine XS.icmpNo X7_.here hx rfl (hC e18_92.2.1) rfl (feq (hm8 : ¬ ((own_ch (f (1 : Int32))) = (58 : Int32)))).1 ?_
                        refine XS.iloadN X7_.here hx rfl (hC e18_92.2.2.1) rfl ?_
                        refine XS.bipush X7_.here hx rfl (hC e18_92.2.2.2) ?_
                        refine XS.icmpYes X7_.here hx rfl (pc0 := 100) (pc' := 107) rfl (hC e18_100.1) rfl (feq (hm9 : ¬ ((own_ch (f (1 : Int32))) = (45 : Int32)))).2 (by decide) (by decide) ?_
                        refine XS.iconst X7_.here hx rfl (hC e18_100.2.1) ?_
                        exact kK
              · refine ⟨(1 : Int32), by rw [if_neg hm1, if_pos hm2, if_pos hm3, if_neg hm4, if_neg hm5], fun tT kK => ?_⟩
                refine XS.iloadN X7_.here hx rfl (hC e18_39.2.2.1) rfl ?_
                refine XS.bipush X7_.here hx rfl (hC e18_39.2.2.2) ?_
                refine XS.icmpNo X7_.here hx rfl (hC e18_46.1) rfl (flt (hm1 : ¬ ((own_ch (f (1 : Int32))) < (65 : Int32)))).1 ?_
                refine XS.iloadN X7_.here hx rfl (hC e18_49.1) rfl ?_
                refine XS.bipush X7_.here hx rfl (hC e18_49.2.1) ?_
                refine XS.icmpNo X7_.here hx rfl (hC e18_49.2.2.1) rfl (tlt (hm2 : (90 : Int32) < (own_ch (f (1 : Int32))))).2.2.2 ?_
                refine XS.iloadN X7_.here hx rfl (hC e18_46.2.1) rfl ?_
                refine XS.bipush X7_.here hx rfl (hC e18_46.2.2.1) ?_
                refine XS.icmpYes X7_.here hx rfl (pc0 := 58) (pc' := 67) rfl (hC e18_46.2.2.2) rfl (tlt (hm3 : (own_ch (f (1 : Int32))) < (97 : Int32))).1 (by decide) (by decide) ?_
                refine XS.iloadN X7_.here hx rfl (hC e18_67.1) rfl ?_
                refine XS.bipush X7_.here hx rfl (hC e18_67.2.1) ?_
                show Steps pP.tables eE below (T7_.setTop (mkF mM 70 ll5 [(.int (48 : Int32)), (.int (own_ch (f (1 : Int32))))])) tT
                refine XS.icmpNo X7_.here hx rfl (hC e18_67.2.2.1) rfl (flt (hm4 : ¬ ((own_ch (f (1 : Int32))) < (48 : Int32)))).1 ?_
                refine XS.iloadN X7_.here hx rfl (hC e18_100.2.2.1) rfl ?_
                refine XS.bipush X7_.here hx rfl (hC e18_100.2.2.2) ?_
                refine XS.icmpYes X7_.here hx rfl (pc0 := 76) (pc' := 103) rfl (hC e18_76.1) rfl (flt (hm5 : ¬ ((57 : Int32) < (own_ch (f (1 : Int32)))))).2.2.2 (by decide) (by decide) ?_
                refine XS.iconst X7_.here hx rfl (hC e18_80.2.2.1) ?_
                refine XS.goto X7_.here hx rfl (pc0 := 104) (pc' := 108) rfl (hC e18_80.2.2.2) (by decide) (by decide) ?_
                exact kK
          · by_cases hm4 : (122 : Int32) < (own_ch (f (1 : Int32)))
            · by_cases hm5 : (own_ch (f (1 : Int32))) < (48 : Int32)
              · by_cases hm6 : (own_ch (f (1 : Int32))) = (46 : Int32)
                · refine ⟨(1 : Int32), by rw [if_neg hm1, if_pos hm2, if_neg hm3, if_pos hm4, if_pos hm5, if_pos hm6], fun tT kK => ?_⟩
                  refine XS.iloadN X7_.here hx rfl (hC e18_39.2.2.1) rfl ?_
                  refine XS.bipush X7_.here hx rfl (hC e18_39.2.2.2) ?_
                  refine XS.icmpNo X7_.here hx rfl (hC e18_46.1) rfl (flt (hm1 : ¬ ((own_ch (f (1 : Int32))) < (65 : Int32)))).1 ?_
                  refine XS.iloadN X7_.here hx rfl (hC e18_49.1) rfl ?_
                  refine XS.bipush X7_.here hx rfl (hC e18_49.2.1) ?_
                  refine XS.icmpNo X7_.here hx rfl (hC e18_49.2.2.1) rfl (tlt (hm2 : (90 : Int32) < (own_ch (f (1 : Int32))))).2.2.2 ?_
                  refine XS.iloadN X7_.here hx rfl (hC e18_46.2.1) rfl ?_
                  refine XS.bipush X7_.here hx rfl (hC e18_46.2.2.1) ?_
                  refine XS.icmpNo X7_.here hx rfl (hC e18_46.2.2.2) rfl (flt (hm3 : ¬ ((own_ch (f (1 : Int32))) < (97 : Int32)))).1 ?_
                  refine XS.iloadN X7_.here hx rfl (hC e18_76.2.1) rfl ?_
                  refine XS.bipush X7_.here hx rfl (hC e18_76.2.2.1) ?_
                  show Steps pP.tables eE below (T7_.setTop (mkF mM 64 ll5 [(.int (122 : Int32)), (.int (own_ch (f (1 : Int32))))])) tT
                  refine XS.icmpNo X7_.here hx rfl (hC e18_76.2.2.2) rfl (tlt (hm4 : (122 : Int32) < (own_ch (f (1 : Int32))))).2.2.2 ?_
                  refine XS.iloadN X7_.here hx rfl (hC e18_67.1) rfl ?_
                  refine XS.bipush X7_.here hx rfl (hC e18_67.2.1) ?_
                  refine XS.icmpYes X7_.here hx rfl (pc0 := 70) (pc' := 79) rfl (hC e18_67.2.2.1) rfl (tlt (hm5 : (own_ch (f (1 : Int32))) < (48 : Int32))).1 (by decide) (by decide) ?_
                  refine XS.iloadN X7_.here hx rfl (hC e18_67.2.2.2) rfl ?_
                  refine XS.bipush X7_.here hx rfl (hC e18_80.1) ?_
                  refine XS.icmpYes X7_.here hx rfl (pc0 := 82) (pc' := 103) rfl (hC e18_80.2.1) rfl (teq (hm6 : (own_ch (f (1 : Int32))) = (46 : Int32))).1 (by decide) (by decide) ?_
                  refine XS.iconst X7_.here hx rfl (hC e18_80.2.2.1) ?_
                  refine XS.goto X7_.here hx rfl (pc0 := 104) (pc' := 108) rfl (hC e18_80.2.2.2) (by decide) (by decide) ?_
                  exact kK
                · by_cases hm7 : (own_ch (f (1 : Int32))) = (95 : Int32)
                  · refine ⟨(1 : Int32), by rw [if_neg hm1, if_pos hm2, if_neg hm3, if_pos hm4, if_pos hm5, if_neg hm6, if_pos hm7], fun tT kK => ?_⟩
                    refine XS.iloadN X7_.here hx rfl (hC e18_39.2.2.1) rfl ?_
                    refine XS.bipush X7_.here hx rfl (hC e18_39.2.2.2) ?_
                    refine XS.icmpNo X7_.here hx rfl (hC e18_46.1) rfl (flt (hm1 : ¬ ((own_ch (f (1 : Int32))) < (65 : Int32)))).1 ?_
                    refine XS.iloadN X7_.here hx rfl (hC e18_49.1) rfl ?_
                    refine XS.bipush X7_.here hx rfl (hC e18_49.2.1) ?_
                    refine XS.icmpNo X7_.here hx rfl (hC e18_49.2.2.1) rfl (tlt (hm2 : (90 : Int32) < (own_ch (f (1 : Int32))))).2.2.2 ?_
                    refine XS.iloadN X7_.here hx rfl (hC e18_46.2.1) rfl ?_
                    refine XS.bipush X7_.here hx rfl (hC e18_46.2.2.1) ?_
                    refine XS.icmpNo X7_.here hx rfl (hC e18_46.2.2.2) rfl (flt (hm3 : ¬ ((own_ch (f (1 : Int32))) < (97 : Int32)))).1 ?_
                    refine XS.iloadN X7_.here hx rfl (hC e18_76.2.1) rfl ?_
                    refine XS.bipush X7_.here hx rfl (hC e18_76.2.2.1) ?_
                    show Steps pP.tables eE below (T7_.setTop (mkF mM 64 ll5 [(.int (122 : Int32)), (.int (own_ch (f (1 : Int32))))])) tT
                    refine XS.icmpNo X7_.here hx rfl (hC e18_76.2.2.2) rfl (tlt (hm4 : (122 : Int32) < (own_ch (f (1 : Int32))))).2.2.2 ?_
                    refine XS.iloadN X7_.here hx rfl (hC e18_67.1) rfl ?_
                    refine XS.bipush X7_.here hx rfl (hC e18_67.2.1) ?_
                    refine XS.icmpYes X7_.here hx rfl (pc0 := 70) (pc' := 79) rfl (hC e18_67.2.2.1) rfl (tlt (hm5 : (own_ch (f (1 : Int32))) < (48 : Int32))).1 (by decide) (by decide) ?_
                    refine XS.iloadN X7_.here hx rfl (hC e18_67.2.2.2) rfl ?_
                    refine XS.bipush X7_.here hx rfl (hC e18_80.1) ?_
                    refine XS.icmpNo X7_.here hx rfl (hC e18_80.2.1) rfl (feq (hm6 : ¬ ((own_ch (f (1 : Int32))) = (46 : Int32)))).1 ?_
                    refine XS.iloadN X7_.here hx rfl (hC e18_85.1) rfl ?_
                    refine XS.bipush X7_.here hx rfl (hC e18_85.2.1) ?_
                    refine XS.icmpYes X7_.here hx rfl (pc0 := 88) (pc' := 103) rfl (hC e18_85.2.2.1) rfl (teq (hm7 : (own_ch (f (1 : Int32))) = (95 : Int32))).1 (by decide) (by decide) ?_
                    refine XS.iconst X7_.here hx rfl (hC e18_80.2.2.1) ?_
                    refine XS.goto X7_.here hx rfl (pc0 := 104) (pc' := 108) rfl (hC e18_80.2.2.2) (by decide) (by decide) ?_
                    exact kK
                  · by_cases hm8 : (own_ch (f (1 : Int32))) = (58 : Int32)
                    · refine ⟨(1 : Int32), by rw [if_neg hm1, if_pos hm2, if_neg hm3, if_pos hm4, if_pos hm5, if_neg hm6, if_neg hm7, if_pos hm8], fun tT kK => ?_⟩
                      refine XS.iloadN X7_.here hx rfl (hC e18_39.2.2.1) rfl ?_
                      refine XS.bipush X7_.here hx rfl (hC e18_39.2.2.2) ?_
                      refine XS.icmpNo X7_.here hx rfl (hC e18_46.1) rfl (flt (hm1 : ¬ ((own_ch (f (1 : Int32))) < (65 : Int32)))).1 ?_
                      refine XS.iloadN X7_.here hx rfl (hC e18_49.1) rfl ?_
                      refine XS.bipush X7_.here hx rfl (hC e18_49.2.1) ?_
                      refine XS.icmpNo X7_.here hx rfl (hC e18_49.2.2.1) rfl (tlt (hm2 : (90 : Int32) < (own_ch (f (1 : Int32))))).2.2.2 ?_
                      refine XS.iloadN X7_.here hx rfl (hC e18_46.2.1) rfl ?_
                      refine XS.bipush X7_.here hx rfl (hC e18_46.2.2.1) ?_
                      refine XS.icmpNo X7_.here hx rfl (hC e18_46.2.2.2) rfl (flt (hm3 : ¬ ((own_ch (f (1 : Int32))) < (97 : Int32)))).1 ?_
                      refine XS.iloadN X7_.here hx rfl (hC e18_76.2.1) rfl ?_
                      refine XS.bipush X7_.here hx rfl (hC e18_76.2.2.1) ?_
                      show Steps pP.tables eE below (T7_.setTop (mkF mM 64 ll5 [(.int (122 : Int32)), (.int (own_ch (f (1 : Int32))))])) tT
                      refine XS.icmpNo X7_.here hx rfl (hC e18_76.2.2.2) rfl (tlt (hm4 : (122 : Int32) < (own_ch (f (1 : Int32))))).2.2.2 ?_
                      refine XS.iloadN X7_.here hx rfl (hC e18_67.1) rfl ?_
                      refine XS.bipush X7_.here hx rfl (hC e18_67.2.1) ?_
                      refine XS.icmpYes X7_.here hx rfl (pc0 := 70) (pc' := 79) rfl (hC e18_67.2.2.1) rfl (tlt (hm5 : (own_ch (f (1 : Int32))) < (48 : Int32))).1 (by decide) (by decide) ?_
                      refine XS.iloadN X7_.here hx rfl (hC e18_67.2.2.2) rfl ?_
                      refine XS.bipush X7_.here hx rfl (hC e18_80.1) ?_
                      refine XS.icmpNo X7_.here hx rfl (hC e18_80.2.1) rfl (feq (hm6 : ¬ ((own_ch (f (1 : Int32))) = (46 : Int32)))).1 ?_
                      refine XS.iloadN X7_.here hx rfl (hC e18_85.1) rfl ?_
                      refine XS.bipush X7_.here hx rfl (hC e18_85.2.1) ?_
                      refine XS.icmpNo X7_.here hx rfl (hC e18_85.2.2.1) rfl (feq (hm7 : ¬ ((own_ch (f (1 : Int32))) = (95 : Int32)))).1 ?_
                      refine XS.iloadN X7_.here hx rfl (hC e18_85.2.2.2) rfl ?_
                      refine XS.bipush X7_.here hx rfl (hC e18_92.1) ?_
                      refine XS.icmpYes X7_.here hx rfl (pc0 := 94) (pc' := 103) rfl (hC e18_92.2.1) rfl (teq (hm8 : (own_ch (f (1 : Int32))) = (58 : Int32))).1 (by decide) (by decide) ?_
                      refine XS.iconst X7_.here hx rfl (hC e18_80.2.2.1) ?_
                      refine XS.goto X7_.here hx rfl (pc0 := 104) (pc' := 108) rfl (hC e18_80.2.2.2) (by decide) (by decide) ?_
                      exact kK
                    · by_cases hm9 : (own_ch (f (1 : Int32))) = (45 : Int32)
                      · refine ⟨(1 : Int32), by rw [if_neg hm1, if_pos hm2, if_neg hm3, if_pos hm4, if_pos hm5, if_neg hm6, if_neg hm7, if_neg hm8, if_pos hm9], fun tT kK => ?_⟩
                        refine XS.iloadN X7_.here hx rfl (hC e18_39.2.2.1) rfl ?_
                        refine XS.bipush X7_.here hx rfl (hC e18_39.2.2.2) ?_
                        refine XS.icmpNo X7_.here hx rfl (hC e18_46.1) rfl (flt (hm1 : ¬ ((own_ch (f (1 : Int32))) < (65 : Int32)))).1 ?_
                        refine XS.iloadN X7_.here hx rfl (hC e18_49.1) rfl ?_
                        refine XS.bipush X7_.here hx rfl (hC e18_49.2.1) ?_
                        refine XS.icmpNo X7_.here hx rfl (hC e18_49.2.2.1) rfl (tlt (hm2 : (90 : Int32) < (own_ch (f (1 : Int32))))).2.2.2 ?_
                        refine XS.iloadN X7_.here hx rfl (hC e18_46.2.1) rfl ?_
                        refine XS.bipush X7_.here hx rfl (hC e18_46.2.2.1) ?_
                        refine XS.icmpNo X7_.here hx rfl (hC e18_46.2.2.2) rfl (flt (hm3 : ¬ ((own_ch (f (1 : Int32))) < (97 : Int32)))).1 ?_
                        refine XS.iloadN X7_.here hx rfl (hC e18_76.2.1) rfl ?_
                        refine XS.bipush X7_.here hx rfl (hC e18_76.2.2.1) ?_
                        show Steps pP.tables eE below (T7_.setTop (mkF mM 64 ll5 [(.int (122 : Int32)), (.int (own_ch (f (1 : Int32))))])) tT
                        refine XS.icmpNo X7_.here hx rfl (hC e18_76.2.2.2) rfl (tlt (hm4 : (122 : Int32) < (own_ch (f (1 : Int32))))).2.2.2 ?_
                        refine XS.iloadN X7_.here hx rfl (hC e18_67.1) rfl ?_
                        refine XS.bipush X7_.here hx rfl (hC e18_67.2.1) ?_
                        refine XS.icmpYes X7_.here hx rfl (pc0 := 70) (pc' := 79) rfl (hC e18_67.2.2.1) rfl (tlt (hm5 : (own_ch (f (1 : Int32))) < (48 : Int32))).1 (by decide) (by decide) ?_
                        refine XS.iloadN X7_.here hx rfl (hC e18_67.2.2.2) rfl ?_
                        refine XS.bipush X7_.here hx rfl (hC e18_80.1) ?_
                        refine XS.icmpNo X7_.here hx rfl (hC e18_80.2.1) rfl (feq (hm6 : ¬ ((own_ch (f (1 : Int32))) = (46 : Int32)))).1 ?_
                        refine XS.iloadN X7_.here hx rfl (hC e18_85.1) rfl ?_
                        refine XS.bipush X7_.here hx rfl (hC e18_85.2.1) ?_
                        refine XS.icmpNo X7_.here hx rfl (hC e18_85.2.2.1) rfl (feq (hm7 : ¬ ((own_ch (f (1 : Int32))) = (95 : Int32)))).1 ?_
                        refine XS.iloadN X7_.here hx rfl (hC e18_85.2.2.2) rfl ?_
                        refine XS.bipush X7_.here hx rfl (hC e18_92.1) ?_
                        refine XS.icmpNo X7_.here hx rfl (hC e18_92.2.1) rfl (feq (hm8 : ¬ ((own_ch (f (1 : Int32))) = (58 : Int32)))).1 ?_
                        refine XS.iloadN X7_.here hx rfl (hC e18_92.2.2.1) rfl ?_
                        refine XS.bipush X7_.here hx rfl (hC e18_92.2.2.2) ?_
                        refine XS.icmpNo X7_.here hx rfl (hC e18_100.1) rfl (teq (hm9 : (own_ch (f (1 : Int32))) = (45 : Int32))).2 ?_
                        refine XS.iconst X7_.here hx rfl (hC e18_80.2.2.1) ?_
                        refine XS.goto X7_.here hx rfl (pc0 := 104) (pc' := 108) rfl (hC e18_80.2.2.2) (by decide) (by decide) ?_
                        exact kK
                      · refine ⟨(0 : Int32), by rw [if_neg hm1, if_pos hm2, if_neg hm3, if_pos hm4, if_pos hm5, if_neg hm6, if_neg hm7, if_neg hm8, if_neg hm9], fun tT kK => ?_⟩
                        refine XS.iloadN X7_.here hx rfl (hC e18_39.2.2.1) rfl ?_
                        refine XS.bipush X7_.here hx rfl (hC e18_39.2.2.2) ?_
                        refine XS.icmpNo X7_.here hx rfl (hC e18_46.1) rfl (flt (hm1 : ¬ ((own_ch (f (1 : Int32))) < (65 : Int32)))).1 ?_
                        refine XS.iloadN X7_.here hx rfl (hC e18_49.1) rfl ?_
                        refine XS.bipush X7_.here hx rfl (hC e18_49.2.1) ?_
                        refine XS.icmpNo X7_.here hx rfl (hC e18_49.2.2.1) rfl (tlt (hm2 : (90 : Int32) < (own_ch (f (1 : Int32))))).2.2.2 ?_
                        refine XS.iloadN X7_.here hx rfl (hC e18_46.2.1) rfl ?_
                        refine XS.bipush X7_.here hx rfl (hC e18_46.2.2.1) ?_
                        refine XS.icmpNo X7_.here hx rfl (hC e18_46.2.2.2) rfl (flt (hm3 : ¬ ((own_ch (f (1 : Int32))) < (97 : Int32)))).1 ?_
                        refine XS.iloadN X7_.here hx rfl (hC e18_76.2.1) rfl ?_
                        refine XS.bipush X7_.here hx rfl (hC e18_76.2.2.1) ?_
                        show Steps pP.tables eE below (T7_.setTop (mkF mM 64 ll5 [(.int (122 : Int32)), (.int (own_ch (f (1 : Int32))))])) tT
                        refine XS.icmpNo X7_.here hx rfl (hC e18_76.2.2.2) rfl (tlt (hm4 : (122 : Int32) < (own_ch (f (1 : Int32))))).2.2.2 ?_
                        refine XS.iloadN X7_.here hx rfl (hC e18_67.1) rfl ?_
                        refine XS.bipush X7_.here hx rfl (hC e18_67.2.1) ?_
                        refine XS.icmpYes X7_.here hx rfl (pc0 := 70) (pc' := 79) rfl (hC e18_67.2.2.1) rfl (tlt (hm5 : (own_ch (f (1 : Int32))) < (48 : Int32))).1 (by decide) (by decide) ?_
                        refine XS.iloadN X7_.here hx rfl (hC e18_67.2.2.2) rfl ?_
                        refine XS.bipush X7_.here hx rfl (hC e18_80.1) ?_
                        refine XS.icmpNo X7_.here hx rfl (hC e18_80.2.1) rfl (feq (hm6 : ¬ ((own_ch (f (1 : Int32))) = (46 : Int32)))).1 ?_
                        refine XS.iloadN X7_.here hx rfl (hC e18_85.1) rfl ?_
                        refine XS.bipush X7_.here hx rfl (hC e18_85.2.1) ?_
                        refine XS.icmpNo X7_.here hx rfl (hC e18_85.2.2.1) rfl (feq (hm7 : ¬ ((own_ch (f (1 : Int32))) = (95 : Int32)))).1 ?_
                        refine XS.iloadN X7_.here hx rfl (hC e18_85.2.2.2) rfl ?_
                        refine XS.bipush X7_.here hx rfl (hC e18_92.1) ?_
                        refine XS.icmpNo X7_.here hx rfl (hC e18_92.2.1) rfl (feq (hm8 : ¬ ((own_ch (f (1 : Int32))) = (58 : Int32)))).1 ?_
                        refine XS.iloadN X7_.here hx rfl (hC e18_92.2.2.1) rfl ?_
                        refine XS.bipush X7_.here hx rfl (hC e18_92.2.2.2) ?_
                        refine XS.icmpYes X7_.here hx rfl (pc0 := 100) (pc' := 107) rfl (hC e18_100.1) rfl (feq (hm9 : ¬ ((own_ch (f (1 : Int32))) = (45 : Int32)))).2 (by decide) (by decide) ?_
                        refine XS.iconst X7_.here hx rfl (hC e18_100.2.1) ?_
                        exact kK
              · by_cases hm6 : (57 : Int32) < (own_ch (f (1 : Int32)))
                · by_cases hm7 : (own_ch (f (1 : Int32))) = (46 : Int32)
                  · refine ⟨(1 : Int32), by rw [if_neg hm1, if_pos hm2, if_neg hm3, if_pos hm4, if_neg hm5, if_pos hm6, if_pos hm7], fun tT kK => ?_⟩
                    refine XS.iloadN X7_.here hx rfl (hC e18_39.2.2.1) rfl ?_
                    refine XS.bipush X7_.here hx rfl (hC e18_39.2.2.2) ?_
                    refine XS.icmpNo X7_.here hx rfl (hC e18_46.1) rfl (flt (hm1 : ¬ ((own_ch (f (1 : Int32))) < (65 : Int32)))).1 ?_
                    refine XS.iloadN X7_.here hx rfl (hC e18_49.1) rfl ?_
                    refine XS.bipush X7_.here hx rfl (hC e18_49.2.1) ?_
                    refine XS.icmpNo X7_.here hx rfl (hC e18_49.2.2.1) rfl (tlt (hm2 : (90 : Int32) < (own_ch (f (1 : Int32))))).2.2.2 ?_
                    refine XS.iloadN X7_.here hx rfl (hC e18_46.2.1) rfl ?_
                    refine XS.bipush X7_.here hx rfl (hC e18_46.2.2.1) ?_
                    refine XS.icmpNo X7_.here hx rfl (hC e18_46.2.2.2) rfl (flt (hm3 : ¬ ((own_ch (f (1 : Int32))) < (97 : Int32)))).1 ?_
                    refine XS.iloadN X7_.here hx rfl (hC e18_76.2.1) rfl ?_
                    refine XS.bipush X7_.here hx rfl (hC e18_76.2.2.1) ?_
                    show Steps pP.tables eE below (T7_.setTop (mkF mM 64 ll5 [(.int (122 : Int32)), (.int (own_ch (f (1 : Int32))))])) tT
                    refine XS.icmpNo X7_.here hx rfl (hC e18_76.2.2.2) rfl (tlt (hm4 : (122 : Int32) < (own_ch (f (1 : Int32))))).2.2.2 ?_
                    refine XS.iloadN X7_.here hx rfl (hC e18_67.1) rfl ?_
                    refine XS.bipush X7_.here hx rfl (hC e18_67.2.1) ?_
                    refine XS.icmpNo X7_.here hx rfl (hC e18_67.2.2.1) rfl (flt (hm5 : ¬ ((own_ch (f (1 : Int32))) < (48 : Int32)))).1 ?_
                    refine XS.iloadN X7_.here hx rfl (hC e18_100.2.2.1) rfl ?_
                    refine XS.bipush X7_.here hx rfl (hC e18_100.2.2.2) ?_
                    refine XS.icmpNo X7_.here hx rfl (hC e18_76.1) rfl (tlt (hm6 : (57 : Int32) < (own_ch (f (1 : Int32))))).2.2.2 ?_
                    refine XS.iloadN X7_.here hx rfl (hC e18_67.2.2.2) rfl ?_
                    refine XS.bipush X7_.here hx rfl (hC e18_80.1) ?_
                    refine XS.icmpYes X7_.here hx rfl (pc0 := 82) (pc' := 103) rfl (hC e18_80.2.1) rfl (teq (hm7 : (own_ch (f (1 : Int32))) = (46 : Int32))).1 (by decide) (by decide) ?_
                    refine XS.iconst X7_.here hx rfl (hC e18_80.2.2.1) ?_
                    refine XS.goto X7_.here hx rfl (pc0 := 104) (pc' := 108) rfl (hC e18_80.2.2.2) (by decide) (by decide) ?_
                    exact kK
                  · by_cases hm8 : (own_ch (f (1 : Int32))) = (95 : Int32)
                    · refine ⟨(1 : Int32), by rw [if_neg hm1, if_pos hm2, if_neg hm3, if_pos hm4, if_neg hm5, if_pos hm6, if_neg hm7, if_pos hm8], fun tT kK => ?_⟩
                      refine XS.iloadN X7_.here hx rfl (hC e18_39.2.2.1) rfl ?_
                      refine XS.bipush X7_.here hx rfl (hC e18_39.2.2.2) ?_
                      refine XS.icmpNo X7_.here hx rfl (hC e18_46.1) rfl (flt (hm1 : ¬ ((own_ch (f (1 : Int32))) < (65 : Int32)))).1 ?_
                      refine XS.iloadN X7_.here hx rfl (hC e18_49.1) rfl ?_
                      refine XS.bipush X7_.here hx rfl (hC e18_49.2.1) ?_
                      refine XS.icmpNo X7_.here hx rfl (hC e18_49.2.2.1) rfl (tlt (hm2 : (90 : Int32) < (own_ch (f (1 : Int32))))).2.2.2 ?_
                      refine XS.iloadN X7_.here hx rfl (hC e18_46.2.1) rfl ?_
                      refine XS.bipush X7_.here hx rfl (hC e18_46.2.2.1) ?_
                      refine XS.icmpNo X7_.here hx rfl (hC e18_46.2.2.2) rfl (flt (hm3 : ¬ ((own_ch (f (1 : Int32))) < (97 : Int32)))).1 ?_
                      refine XS.iloadN X7_.here hx rfl (hC e18_76.2.1) rfl ?_
                      refine XS.bipush X7_.here hx rfl (hC e18_76.2.2.1) ?_
                      show Steps pP.tables eE below (T7_.setTop (mkF mM 64 ll5 [(.int (122 : Int32)), (.int (own_ch (f (1 : Int32))))])) tT
                      refine XS.icmpNo X7_.here hx rfl (hC e18_76.2.2.2) rfl (tlt (hm4 : (122 : Int32) < (own_ch (f (1 : Int32))))).2.2.2 ?_
                      refine XS.iloadN X7_.here hx rfl (hC e18_67.1) rfl ?_
                      refine XS.bipush X7_.here hx rfl (hC e18_67.2.1) ?_
                      refine XS.icmpNo X7_.here hx rfl (hC e18_67.2.2.1) rfl (flt (hm5 : ¬ ((own_ch (f (1 : Int32))) < (48 : Int32)))).1 ?_
                      refine XS.iloadN X7_.here hx rfl (hC e18_100.2.2.1) rfl ?_
                      refine XS.bipush X7_.here hx rfl (hC e18_100.2.2.2) ?_
                      refine XS.icmpNo X7_.here hx rfl (hC e18_76.1) rfl (tlt (hm6 : (57 : Int32) < (own_ch (f (1 : Int32))))).2.2.2 ?_
                      refine XS.iloadN X7_.here hx rfl (hC e18_67.2.2.2) rfl ?_
                      refine XS.bipush X7_.here hx rfl (hC e18_80.1) ?_
                      refine XS.icmpNo X7_.here hx rfl (hC e18_80.2.1) rfl (feq (hm7 : ¬ ((own_ch (f (1 : Int32))) = (46 : Int32)))).1 ?_
                      refine XS.iloadN X7_.here hx rfl (hC e18_85.1) rfl ?_
                      refine XS.bipush X7_.here hx rfl (hC e18_85.2.1) ?_
                      refine XS.icmpYes X7_.here hx rfl (pc0 := 88) (pc' := 103) rfl (hC e18_85.2.2.1) rfl (teq (hm8 : (own_ch (f (1 : Int32))) = (95 : Int32))).1 (by decide) (by decide) ?_
                      refine XS.iconst X7_.here hx rfl (hC e18_80.2.2.1) ?_
                      refine XS.goto X7_.here hx rfl (pc0 := 104) (pc' := 108) rfl (hC e18_80.2.2.2) (by decide) (by decide) ?_
                      exact kK
                    · by_cases hm9 : (own_ch (f (1 : Int32))) = (58 : Int32)
                      · refine ⟨(1 : Int32), by rw [if_neg hm1, if_pos hm2, if_neg hm3, if_pos hm4, if_neg hm5, if_pos hm6, if_neg hm7, if_neg hm8, if_pos hm9], fun tT kK => ?_⟩
                        refine XS.iloadN X7_.here hx rfl (hC e18_39.2.2.1) rfl ?_
                        refine XS.bipush X7_.here hx rfl (hC e18_39.2.2.2) ?_
                        refine XS.icmpNo X7_.here hx rfl (hC e18_46.1) rfl (flt (hm1 : ¬ ((own_ch (f (1 : Int32))) < (65 : Int32)))).1 ?_
                        refine XS.iloadN X7_.here hx rfl (hC e18_49.1) rfl ?_
                        refine XS.bipush X7_.here hx rfl (hC e18_49.2.1) ?_
                        refine XS.icmpNo X7_.here hx rfl (hC e18_49.2.2.1) rfl (tlt (hm2 : (90 : Int32) < (own_ch (f (1 : Int32))))).2.2.2 ?_
                        refine XS.iloadN X7_.here hx rfl (hC e18_46.2.1) rfl ?_
                        refine XS.bipush X7_.here hx rfl (hC e18_46.2.2.1) ?_
                        refine XS.icmpNo X7_.here hx rfl (hC e18_46.2.2.2) rfl (flt (hm3 : ¬ ((own_ch (f (1 : Int32))) < (97 : Int32)))).1 ?_
                        refine XS.iloadN X7_.here hx rfl (hC e18_76.2.1) rfl ?_
                        refine XS.bipush X7_.here hx rfl (hC e18_76.2.2.1) ?_
                        show Steps pP.tables eE below (T7_.setTop (mkF mM 64 ll5 [(.int (122 : Int32)), (.int (own_ch (f (1 : Int32))))])) tT
                        refine XS.icmpNo X7_.here hx rfl (hC e18_76.2.2.2) rfl (tlt (hm4 : (122 : Int32) < (own_ch (f (1 : Int32))))).2.2.2 ?_
                        refine XS.iloadN X7_.here hx rfl (hC e18_67.1) rfl ?_
                        refine XS.bipush X7_.here hx rfl (hC e18_67.2.1) ?_
                        refine XS.icmpNo X7_.here hx rfl (hC e18_67.2.2.1) rfl (flt (hm5 : ¬ ((own_ch (f (1 : Int32))) < (48 : Int32)))).1 ?_
                        refine XS.iloadN X7_.here hx rfl (hC e18_100.2.2.1) rfl ?_
                        refine XS.bipush X7_.here hx rfl (hC e18_100.2.2.2) ?_
                        refine XS.icmpNo X7_.here hx rfl (hC e18_76.1) rfl (tlt (hm6 : (57 : Int32) < (own_ch (f (1 : Int32))))).2.2.2 ?_
                        refine XS.iloadN X7_.here hx rfl (hC e18_67.2.2.2) rfl ?_
                        refine XS.bipush X7_.here hx rfl (hC e18_80.1) ?_
                        refine XS.icmpNo X7_.here hx rfl (hC e18_80.2.1) rfl (feq (hm7 : ¬ ((own_ch (f (1 : Int32))) = (46 : Int32)))).1 ?_
                        refine XS.iloadN X7_.here hx rfl (hC e18_85.1) rfl ?_
                        refine XS.bipush X7_.here hx rfl (hC e18_85.2.1) ?_
                        refine XS.icmpNo X7_.here hx rfl (hC e18_85.2.2.1) rfl (feq (hm8 : ¬ ((own_ch (f (1 : Int32))) = (95 : Int32)))).1 ?_
                        refine XS.iloadN X7_.here hx rfl (hC e18_85.2.2.2) rfl ?_
                        refine XS.bipush X7_.here hx rfl (hC e18_92.1) ?_
                        refine XS.icmpYes X7_.here hx rfl (pc0 := 94) (pc' := 103) rfl (hC e18_92.2.1) rfl (teq (hm9 : (own_ch (f (1 : Int32))) = (58 : Int32))).1 (by decide) (by decide) ?_
                        refine XS.iconst X7_.here hx rfl (hC e18_80.2.2.1) ?_
                        refine XS.goto X7_.here hx rfl (pc0 := 104) (pc' := 108) rfl (hC e18_80.2.2.2) (by decide) (by decide) ?_
                        exact kK
                      · by_cases hm10 : (own_ch (f (1 : Int32))) = (45 : Int32)
                        · refine ⟨(1 : Int32), by rw [if_neg hm1, if_pos hm2, if_neg hm3, if_pos hm4, if_neg hm5, if_pos hm6, if_neg hm7, if_neg hm8, if_neg hm9, if_pos hm10], fun tT kK => ?_⟩
                          refine XS.iloadN X7_.here hx rfl (hC e18_39.2.2.1) rfl ?_
                          refine XS.bipush X7_.here hx rfl (hC e18_39.2.2.2) ?_
                          refine XS.icmpNo X7_.here hx rfl (hC e18_46.1) rfl (flt (hm1 : ¬ ((own_ch (f (1 : Int32))) < (65 : Int32)))).1 ?_
                          refine XS.iloadN X7_.here hx rfl (hC e18_49.1) rfl ?_
                          refine XS.bipush X7_.here hx rfl (hC e18_49.2.1) ?_
                          refine XS.icmpNo X7_.here hx rfl (hC e18_49.2.2.1) rfl (tlt (hm2 : (90 : Int32) < (own_ch (f (1 : Int32))))).2.2.2 ?_
                          refine XS.iloadN X7_.here hx rfl (hC e18_46.2.1) rfl ?_
                          refine XS.bipush X7_.here hx rfl (hC e18_46.2.2.1) ?_
                          refine XS.icmpNo X7_.here hx rfl (hC e18_46.2.2.2) rfl (flt (hm3 : ¬ ((own_ch (f (1 : Int32))) < (97 : Int32)))).1 ?_
                          refine XS.iloadN X7_.here hx rfl (hC e18_76.2.1) rfl ?_
                          refine XS.bipush X7_.here hx rfl (hC e18_76.2.2.1) ?_
                          show Steps pP.tables eE below (T7_.setTop (mkF mM 64 ll5 [(.int (122 : Int32)), (.int (own_ch (f (1 : Int32))))])) tT
                          refine XS.icmpNo X7_.here hx rfl (hC e18_76.2.2.2) rfl (tlt (hm4 : (122 : Int32) < (own_ch (f (1 : Int32))))).2.2.2 ?_
                          refine XS.iloadN X7_.here hx rfl (hC e18_67.1) rfl ?_
                          refine XS.bipush X7_.here hx rfl (hC e18_67.2.1) ?_
                          refine XS.icmpNo X7_.here hx rfl (hC e18_67.2.2.1) rfl (flt (hm5 : ¬ ((own_ch (f (1 : Int32))) < (48 : Int32)))).1 ?_
                          refine XS.iloadN X7_.here hx rfl (hC e18_100.2.2.1) rfl ?_
                          refine XS.bipush X7_.here hx rfl (hC e18_100.2.2.2) ?_
                          refine XS.icmpNo X7_.here hx rfl (hC e18_76.1) rfl (tlt (hm6 : (57 : Int32) < (own_ch (f (1 : Int32))))).2.2.2 ?_
                          refine XS.iloadN X7_.here hx rfl (hC e18_67.2.2.2) rfl ?_
                          refine XS.bipush X7_.here hx rfl (hC e18_80.1) ?_
                          refine XS.icmpNo X7_.here hx rfl (hC e18_80.2.1) rfl (feq (hm7 : ¬ ((own_ch (f (1 : Int32))) = (46 : Int32)))).1 ?_
                          refine XS.iloadN X7_.here hx rfl (hC e18_85.1) rfl ?_
                          refine XS.bipush X7_.here hx rfl (hC e18_85.2.1) ?_
                          refine XS.icmpNo X7_.here hx rfl (hC e18_85.2.2.1) rfl (feq (hm8 : ¬ ((own_ch (f (1 : Int32))) = (95 : Int32)))).1 ?_
                          refine XS.iloadN X7_.here hx rfl (hC e18_85.2.2.2) rfl ?_
                          refine XS.bipush X7_.here hx rfl (hC e18_92.1) ?_
                          refine XS.icmpNo X7_.here hx rfl (hC e18_92.2.1) rfl (feq (hm9 : ¬ ((own_ch (f (1 : Int32))) = (58 : Int32)))).1 ?_
                          refine XS.iloadN X7_.here hx rfl (hC e18_92.2.2.1) rfl ?_
                          refine XS.bipush X7_.here hx rfl (hC e18_92.2.2.2) ?_
                          refine XS.icmpNo X7_.here hx rfl (hC e18_100.1) rfl (teq (hm10 : (own_ch (f (1 : Int32))) = (45 : Int32))).2 ?_
                          refine XS.iconst X7_.here hx rfl (hC e18_80.2.2.1) ?_
                          refine XS.goto X7_.here hx rfl (pc0 := 104) (pc' := 108) rfl (hC e18_80.2.2.2) (by decide) (by decide) ?_
                          exact kK
                        · refine ⟨(0 : Int32), by rw [if_neg hm1, if_pos hm2, if_neg hm3, if_pos hm4, if_neg hm5, if_pos hm6, if_neg hm7, if_neg hm8, if_neg hm9, if_neg hm10], fun tT kK => ?_⟩
                          refine XS.iloadN X7_.here hx rfl (hC e18_39.2.2.1) rfl ?_
                          refine XS.bipush X7_.here hx rfl (hC e18_39.2.2.2) ?_
                          refine XS.icmpNo X7_.here hx rfl (hC e18_46.1) rfl (flt (hm1 : ¬ ((own_ch (f (1 : Int32))) < (65 : Int32)))).1 ?_
                          refine XS.iloadN X7_.here hx rfl (hC e18_49.1) rfl ?_
                          refine XS.bipush X7_.here hx rfl (hC e18_49.2.1) ?_
                          refine XS.icmpNo X7_.here hx rfl (hC e18_49.2.2.1) rfl (tlt (hm2 : (90 : Int32) < (own_ch (f (1 : Int32))))).2.2.2 ?_
                          refine XS.iloadN X7_.here hx rfl (hC e18_46.2.1) rfl ?_
                          refine XS.bipush X7_.here hx rfl (hC e18_46.2.2.1) ?_
                          refine XS.icmpNo X7_.here hx rfl (hC e18_46.2.2.2) rfl (flt (hm3 : ¬ ((own_ch (f (1 : Int32))) < (97 : Int32)))).1 ?_
                          refine XS.iloadN X7_.here hx rfl (hC e18_76.2.1) rfl ?_
                          refine XS.bipush X7_.here hx rfl (hC e18_76.2.2.1) ?_
                          show Steps pP.tables eE below (T7_.setTop (mkF mM 64 ll5 [(.int (122 : Int32)), (.int (own_ch (f (1 : Int32))))])) tT
                          refine XS.icmpNo X7_.here hx rfl (hC e18_76.2.2.2) rfl (tlt (hm4 : (122 : Int32) < (own_ch (f (1 : Int32))))).2.2.2 ?_
                          refine XS.iloadN X7_.here hx rfl (hC e18_67.1) rfl ?_
                          refine XS.bipush X7_.here hx rfl (hC e18_67.2.1) ?_
                          refine XS.icmpNo X7_.here hx rfl (hC e18_67.2.2.1) rfl (flt (hm5 : ¬ ((own_ch (f (1 : Int32))) < (48 : Int32)))).1 ?_
                          refine XS.iloadN X7_.here hx rfl (hC e18_100.2.2.1) rfl ?_
                          refine XS.bipush X7_.here hx rfl (hC e18_100.2.2.2) ?_
                          refine XS.icmpNo X7_.here hx rfl (hC e18_76.1) rfl (tlt (hm6 : (57 : Int32) < (own_ch (f (1 : Int32))))).2.2.2 ?_
                          refine XS.iloadN X7_.here hx rfl (hC e18_67.2.2.2) rfl ?_
                          refine XS.bipush X7_.here hx rfl (hC e18_80.1) ?_
                          refine XS.icmpNo X7_.here hx rfl (hC e18_80.2.1) rfl (feq (hm7 : ¬ ((own_ch (f (1 : Int32))) = (46 : Int32)))).1 ?_
                          refine XS.iloadN X7_.here hx rfl (hC e18_85.1) rfl ?_
                          refine XS.bipush X7_.here hx rfl (hC e18_85.2.1) ?_
                          refine XS.icmpNo X7_.here hx rfl (hC e18_85.2.2.1) rfl (feq (hm8 : ¬ ((own_ch (f (1 : Int32))) = (95 : Int32)))).1 ?_
                          refine XS.iloadN X7_.here hx rfl (hC e18_85.2.2.2) rfl ?_
                          refine XS.bipush X7_.here hx rfl (hC e18_92.1) ?_
                          refine XS.icmpNo X7_.here hx rfl (hC e18_92.2.1) rfl (feq (hm9 : ¬ ((own_ch (f (1 : Int32))) = (58 : Int32)))).1 ?_
                          refine XS.iloadN X7_.here hx rfl (hC e18_92.2.2.1) rfl ?_
                          refine XS.bipush X7_.here hx rfl (hC e18_92.2.2.2) ?_
                          refine XS.icmpYes X7_.here hx rfl (pc0 := 100) (pc' := 107) rfl (hC e18_100.1) rfl (feq (hm10 : ¬ ((own_ch (f (1 : Int32))) = (45 : Int32)))).2 (by decide) (by decide) ?_
                          refine XS.iconst X7_.here hx rfl (hC e18_100.2.1) ?_
                          exact kK
                · refine ⟨(1 : Int32), by rw [if_neg hm1, if_pos hm2, if_neg hm3, if_pos hm4, if_neg hm5, if_neg hm6], fun tT kK => ?_⟩
                  refine XS.iloadN X7_.here hx rfl (hC e18_39.2.2.1) rfl ?_
                  refine XS.bipush X7_.here hx rfl (hC e18_39.2.2.2) ?_
                  refine XS.icmpNo X7_.here hx rfl (hC e18_46.1) rfl (flt (hm1 : ¬ ((own_ch (f (1 : Int32))) < (65 : Int32)))).1 ?_
                  refine XS.iloadN X7_.here hx rfl (hC e18_49.1) rfl ?_
                  refine XS.bipush X7_.here hx rfl (hC e18_49.2.1) ?_
                  refine XS.icmpNo X7_.here hx rfl (hC e18_49.2.2.1) rfl (tlt (hm2 : (90 : Int32) < (own_ch (f (1 : Int32))))).2.2.2 ?_
                  refine XS.iloadN X7_.here hx rfl (hC e18_46.2.1) rfl ?_
                  refine XS.bipush X7_.here hx rfl (hC e18_46.2.2.1) ?_
                  refine XS.icmpNo X7_.here hx rfl (hC e18_46.2.2.2) rfl (flt (hm3 : ¬ ((own_ch (f (1 : Int32))) < (97 : Int32)))).1 ?_
                  refine XS.iloadN X7_.here hx rfl (hC e18_76.2.1) rfl ?_
                  refine XS.bipush X7_.here hx rfl (hC e18_76.2.2.1) ?_
                  show Steps pP.tables eE below (T7_.setTop (mkF mM 64 ll5 [(.int (122 : Int32)), (.int (own_ch (f (1 : Int32))))])) tT
                  refine XS.icmpNo X7_.here hx rfl (hC e18_76.2.2.2) rfl (tlt (hm4 : (122 : Int32) < (own_ch (f (1 : Int32))))).2.2.2 ?_
                  refine XS.iloadN X7_.here hx rfl (hC e18_67.1) rfl ?_
                  refine XS.bipush X7_.here hx rfl (hC e18_67.2.1) ?_
                  refine XS.icmpNo X7_.here hx rfl (hC e18_67.2.2.1) rfl (flt (hm5 : ¬ ((own_ch (f (1 : Int32))) < (48 : Int32)))).1 ?_
                  refine XS.iloadN X7_.here hx rfl (hC e18_100.2.2.1) rfl ?_
                  refine XS.bipush X7_.here hx rfl (hC e18_100.2.2.2) ?_
                  refine XS.icmpYes X7_.here hx rfl (pc0 := 76) (pc' := 103) rfl (hC e18_76.1) rfl (flt (hm6 : ¬ ((57 : Int32) < (own_ch (f (1 : Int32)))))).2.2.2 (by decide) (by decide) ?_
                  refine XS.iconst X7_.here hx rfl (hC e18_80.2.2.1) ?_
                  refine XS.goto X7_.here hx rfl (pc0 := 104) (pc' := 108) rfl (hC e18_80.2.2.2) (by decide) (by decide) ?_
                  exact kK
            · refine ⟨(1 : Int32), by rw [if_neg hm1, if_pos hm2, if_neg hm3, if_neg hm4], fun tT kK => ?_⟩
              refine XS.iloadN X7_.here hx rfl (hC e18_39.2.2.1) rfl ?_
              refine XS.bipush X7_.here hx rfl (hC e18_39.2.2.2) ?_
              refine XS.icmpNo X7_.here hx rfl (hC e18_46.1) rfl (flt (hm1 : ¬ ((own_ch (f (1 : Int32))) < (65 : Int32)))).1 ?_
              refine XS.iloadN X7_.here hx rfl (hC e18_49.1) rfl ?_
              refine XS.bipush X7_.here hx rfl (hC e18_49.2.1) ?_
              refine XS.icmpNo X7_.here hx rfl (hC e18_49.2.2.1) rfl (tlt (hm2 : (90 : Int32) < (own_ch (f (1 : Int32))))).2.2.2 ?_
              refine XS.iloadN X7_.here hx rfl (hC e18_46.2.1) rfl ?_
              refine XS.bipush X7_.here hx rfl (hC e18_46.2.2.1) ?_
              refine XS.icmpNo X7_.here hx rfl (hC e18_46.2.2.2) rfl (flt (hm3 : ¬ ((own_ch (f (1 : Int32))) < (97 : Int32)))).1 ?_
              refine XS.iloadN X7_.here hx rfl (hC e18_76.2.1) rfl ?_
              refine XS.bipush X7_.here hx rfl (hC e18_76.2.2.1) ?_
              show Steps pP.tables eE below (T7_.setTop (mkF mM 64 ll5 [(.int (122 : Int32)), (.int (own_ch (f (1 : Int32))))])) tT
              refine XS.icmpYes X7_.here hx rfl (pc0 := 64) (pc' := 103) rfl (hC e18_76.2.2.2) rfl (flt (hm4 : ¬ ((122 : Int32) < (own_ch (f (1 : Int32)))))).2.2.2 (by decide) (by decide) ?_
              refine XS.iconst X7_.here hx rfl (hC e18_80.2.2.1) ?_
              refine XS.goto X7_.here hx rfl (pc0 := 104) (pc' := 108) rfl (hC e18_80.2.2.2) (by decide) (by decide) ?_
              exact kK
        · refine ⟨(1 : Int32), by rw [if_neg hm1, if_neg hm2], fun tT kK => ?_⟩
          refine XS.iloadN X7_.here hx rfl (hC e18_39.2.2.1) rfl ?_
          refine XS.bipush X7_.here hx rfl (hC e18_39.2.2.2) ?_
          refine XS.icmpNo X7_.here hx rfl (hC e18_46.1) rfl (flt (hm1 : ¬ ((own_ch (f (1 : Int32))) < (65 : Int32)))).1 ?_
          refine XS.iloadN X7_.here hx rfl (hC e18_49.1) rfl ?_
          refine XS.bipush X7_.here hx rfl (hC e18_49.2.1) ?_
          refine XS.icmpYes X7_.here hx rfl (pc0 := 52) (pc' := 103) rfl (hC e18_49.2.2.1) rfl (flt (hm2 : ¬ ((90 : Int32) < (own_ch (f (1 : Int32)))))).2.2.2 (by decide) (by decide) ?_
          refine XS.iconst X7_.here hx rfl (hC e18_80.2.2.1) ?_
          refine XS.goto X7_.here hx rfl (pc0 := 104) (pc' := 108) rfl (hC e18_80.2.2.2) (by decide) (by decide) ?_
          exact kK
    refine own_fin st8_ ?_
    rcases (hv1.trans ok1 : v1 = (1 : Int32)) with rfl
    · let ll6 : Array Slot := #[vR a, vI 1, vI 2, vI (own_ch (f (1 : Int32)))]
      refine jg T7_ mM 31 ll6 [(.ref a), (.int (2 : Int32))] (fun tT kK => ?_) ?_
      · refine XS.istoreN X7_.here hx rfl (hC e18_49.2.2.2) rfl (l' := ll5) rfl ?_
        refine XS.iinc X7_.here hx rfl (hC e18_109.1) rfl (l' := ll6) rfl ?_
        refine XS.goto X7_.here hx rfl (pc0 := 112) (pc' := 25) rfl (hC e18_109.2.1) (by decide) (by decide) ?_
        refine XS.iloadN X7_.here hx rfl (hC e18_25.1) rfl ?_
        refine XS.ifNo X7_.here hx rfl (hC e18_25.2.1) rfl ((if0 _ _).trans (feq ((by decide) : ¬ ((1 : Int32) = (0 : Int32)))).1) ?_
        refine XS.iloadN X7_.here hx rfl (hC e18_25.2.2.1) rfl ?_
        refine XS.aloadN X7_.here hx rfl (hC e18_25.2.2.2) rfl rfl ?_
        exact kK
      refine jv X7_ hx hZ (y := jy1) hown (jk hw 87 rfl) (jk hw 88 rfl) (jk hw 90 rfl) (jk hw 89 rfl) (jk hw 91 rfl) (jk hw 11 rfl) (rm_slen lL Z a0 hw [] a t (2 : Int32) f cs h0 n0 (Nat.le_trans Z0 K0.1) Oo Scs ncs E Fv Fc Tt) E p7__0 own_pd12 [] [(.int (2 : Int32))] (hC e18_31.1) rfl rfl (by rw [hml]; rfl) (by decide) 1 (Nat.le_of_eq rfl) (by decide) (by decide) (by decide : 0 + 0 ≤ _) (by decide : 0 + 0 ≤ _) fun vv9_ T9_ L9_ X9_ hQ9_ => ?_
      obtain ⟨rfl, N9_q, p9__0⟩ := hQ9_
      have N9_ := Fr.app N7_ N9_q
      refine jg T9_ mM 116 ll6 [(.int (1 : Int32))] (fun tT kK => ?_) ?_
      · refine XS.icmpYes X9_.here hx rfl (pc0 := 34) (pc' := 115) rfl (hC e18_31.2.1) rfl (flt ((by decide) : ¬ ((2 : Int32) < (2 : Int32)))).2.1 (by decide) (by decide) ?_
        refine XS.iloadN X9_.here hx rfl (hC e18_109.2.2.1) rfl ?_
        exact kK
      exact own_rL X9_ hx hlk hre (by simp) (hC e18_109.2.2.2) (w := (.int (1 : Int32))) rfl p9__0 (by decide) (by decide) ⟨rfl, N9_, rfl⟩
theorem e23_0 : jD29 0 (.getstatic 1, 3) ∧ jD29 3 (.astore_n 0, 1) ∧ jD29 4 (.aload_n 0, 1) ∧ jD29 5 (.areturn, 1) := by decide +kernel
theorem own_pn_java_util_Optional : plainName "java/util/Optional" = true := by first | (simp [plainName, overriddenIn]; done) | decide +kernel
theorem own_ef_rm_oe (mM : MethodId)  : entryFrame mM #[] 1 = mkF mM 0 #[.unset] [] := by first | (simp [entryFrame, mkF, argsToLocals, Value.category]; done) | rfl
def Q_rm_oe (Z : State) (em : Addr) (h0 : Heap) (n0 : Nat) (vV : Option Value) (hH : Heap) (lA : List Loc) : Prop := vV = some (.ref em) ∧ Fr n0 lA ∧ (hH = h0)
set_option maxRecDepth 65536 in
set_option maxHeartbeats 40000000 in
theorem rm_oe (lL : Launch) (Z : State) (a0 : Array Value) (hw : own_H a0 Z) (ws : List Jvm.Cond) (em : Addr) (h0 : Heap) (n0 : Nat) (Z0 : n0 ≤ h0.size) (Oo : Old Z n0 h0) (Se : Sta Z Z.heap "java/util/Optional" "EMPTY" "Ljava/util/Optional;" (.ref em)) :
    own_Met lL jy29 (Jvm.Cond.code jy29 jdk_32_method_1_code 1 (some (.object "java/util/Optional")) :: ws) jr0 #[] Z h0 (Q_rm_oe Z em h0 n0) := by
  refine own_begin (plainFor_of_name own_pn_java_util_Optional) (fun mM => own_ef_rm_oe mM ) fun pP eE sS mM below meth cC s₁ hx hby hml hZ hown hnm hre hlk X0 e0 => ?_
  have hC := @Jvm.hb _ _ hby
  have N0 := Fr.nil n0
  have K0 := Keep.refl h0 ([] : List Addr)
  obtain ⟨T1_, X1_, e1_, st1_⟩ := getS2 X0 hx hZ hown (host := "") (Or.inl (jk hw 105 rfl)) Via.refl e0 (own_StaKeep Oo Se) (g := (mkF mM 0 #[vU] [])) rfl (hC e23_0.1)
  refine own_fin st1_ ?_
  refine jg T1_ mM 5 #[vR em] [(.ref em)] (fun tT kK => ?_) ?_
  · refine XS.astoreN X1_.here hx rfl (hC e23_0.2.1) rfl rfl (l' := #[vR em]) rfl ?_
    refine XS.aloadN X1_.here hx rfl (hC e23_0.2.2.1) rfl rfl ?_
    exact kK
  exact own_rr X1_ hx hlk hre rfl (Or.inr (Or.inr (Or.inr (Or.inr ⟨rfl, rfl, rfl⟩)))) (hC e23_0.2.2.2) e1_ (by decide) (by decide) ⟨rfl, N0, rfl⟩
theorem e31_0 : jD30 0 (.aload_n 0, 1) ∧ jD30 1 (.getfield 13, 3) ∧ jD30 4 (.ifnull 7, 3) ∧ jD30 11 (.iconst 0, 1) := by decide +kernel
theorem d31_12 : jD30 12 (.ireturn, 1) := by decide +kernel
theorem own_ef_rm_ip (mM : MethodId) (x0 : Addr) : entryFrame mM #[(.ref x0)] 1 = mkF mM 0 #[.val (.ref x0)] [] := by first | (simp [entryFrame, mkF, argsToLocals, Value.category]; done) | rfl
def Q_rm_ip (Z : State) (o : Addr) (h0 : Heap) (n0 : Nat) (vV : Option Value) (hH : Heap) (lA : List Loc) : Prop := vV = some (.int (0 : Int32)) ∧ Fr n0 lA ∧ (hH = h0)
set_option maxRecDepth 65536 in
set_option maxHeartbeats 40000000 in
theorem rm_ip (lL : Launch) (Z : State) (a0 : Array Value) (hw : own_H a0 Z) (ws : List Jvm.Cond) (o : Addr) (h0 : Heap) (n0 : Nat) (Z0 : n0 ≤ h0.size) (Fv : jF2 Z h0 o .null) :
    own_Met lL jy30 (Jvm.Cond.code jy30 jdk_32_method_6_code 1 (some .boolean) :: ws) jr0 #[(.ref o)] Z h0 (Q_rm_ip Z o h0 n0) := by
  refine own_begin (plainFor_of_name own_pn_java_util_Optional) (fun mM => own_ef_rm_ip mM o) fun pP eE sS mM below meth cC s₁ hx hby hml hZ hown hnm hre hlk X0 e0 => ?_
  have hC := @Jvm.hb _ _ hby
  have N0 := Fr.nil n0
  have K0 := Keep.refl h0 ([] : List Addr)
  refine jg s₁ mM 1 #[vR o] [(.ref o)] (fun tT kK => ?_) ?_
  · refine XS.aloadN X0.here hx rfl (hC e31_0.1) rfl rfl ?_
    exact kK
  refine jf X0 hx hZ hown (jk hw 139 rfl) e0 Fv (hC e31_0.2.1) fun T1_ X1_ e1_ => ?_
  refine jg T1_ mM 12 #[vR o] [(.int (0 : Int32))] (fun tT kK => ?_) ?_
  · refine XS.ifnullYes X1_.here hx rfl (pc0 := 4) (pc' := 11) rfl (hC e31_0.2.2.1) rfl (by decide) (by decide) ?_
    refine XS.iconst X1_.here hx rfl (hC e31_0.2.2.2) ?_
    exact kK
  exact own_rL X1_ hx hlk hre (by simp) (hC d31_12) (w := (.int (0 : Int32))) rfl e1_ (by decide) (by decide) ⟨rfl, N0, rfl⟩
theorem e40_0 : jD31 0 (.iload_n 0, 1) ∧ jD31 1 (.ldc 73, 2) ∧ jD31 3 (.if_icmp .lt 7, 3) ∧ jD31 10 (.iconst 1, 1) := by decide +kernel
theorem d40_11 : jD31 11 (.ireturn, 1) := by decide +kernel
theorem own_pn_java_lang_Character : plainName "java/lang/Character" = true := by first | (simp [plainName, overriddenIn]; done) | decide +kernel
theorem own_ef_rm_cc (mM : MethodId) (x0 : Int32) : entryFrame mM #[(.int x0)] 1 = mkF mM 0 #[.val (.int x0)] [] := by first | (simp [entryFrame, mkF, argsToLocals, Value.category]; done) | rfl
def Q_rm_cc (Z : State) (p : Int32) (h0 : Heap) (n0 : Nat) (vV : Option Value) (hH : Heap) (lA : List Loc) : Prop := vV = some (.int (1 : Int32)) ∧ Fr n0 lA ∧ (hH = h0)
set_option maxRecDepth 65536 in
set_option maxHeartbeats 40000000 in
theorem rm_cc (lL : Launch) (Z : State) (a0 : Array Value) (hw : own_H a0 Z) (ws : List Jvm.Cond) (p : Int32) (h0 : Heap) (n0 : Nat) (Z0 : n0 ≤ h0.size) (h : p < (65536 : Int32)) :
    own_Met lL jy31 (Jvm.Cond.code jy31 jdk_89_method_18_code 1 (some .int) :: ws) jr0 #[(.int p)] Z h0 (Q_rm_cc Z p h0 n0) := by
  refine own_begin (plainFor_of_name own_pn_java_lang_Character) (fun mM => own_ef_rm_cc mM p) fun pP eE sS mM below meth cC s₁ hx hby hml hZ hown hnm hre hlk X0 e0 => ?_
  have hC := @Jvm.hb _ _ hby
  have N0 := Fr.nil n0
  have K0 := Keep.refl h0 ([] : List Addr)
  refine jg s₁ mM 11 #[vI p] [(.int (1 : Int32))] (fun tT kK => ?_) ?_
  · refine XS.iloadN X0.here hx rfl (hC e40_0.1) rfl ?_
    refine X0.ldcInt hx hown (jm hZ hw 189 rfl) (g := (mkF mM 1 #[vI p] [(.int p)])) rfl (hC e40_0.2.1) _ ?_
    refine XS.icmpYes X0.here hx rfl (pc0 := 3) (pc' := 10) rfl (hC e40_0.2.2.1) rfl (tlt (h : p < (65536 : Int32))).1 (by decide) (by decide) ?_
    refine XS.iconst X0.here hx rfl (hC e40_0.2.2.2) ?_
    exact kK
  exact own_rr X0 hx hlk hre rfl (Or.inl ⟨rfl, Or.inl rfl, _, rfl⟩) (hC d40_11) e0 (by decide) (by decide) ⟨rfl, N0, rfl⟩
theorem e39_0 : jD32 0 (.aload_n 0, 1) ∧ jD32 1 (.invokevirtual 492, 3) ∧ jD32 4 (.ifCond .eq 23, 3) ∧ jD32 7 (.iload_n 1, 1) := by decide +kernel
theorem e39_8 : jD32 8 (.aload_n 0, 1) ∧ jD32 9 (.getfield 9, 3) ∧ jD32 12 (.arraylength, 1) ∧ jD32 13 (.invokestatic 499, 3) := by decide +kernel
theorem e39_16 : jD32 16 (.aload_n 0, 1) ∧ jD32 17 (.getfield 9, 3) ∧ jD32 20 (.iload_n 1, 1) ∧ jD32 21 (.baload, 1) := by decide +kernel
theorem e39_22 : jD32 22 (.sipush 255, 3) ∧ jD32 25 (.iand, 1) ∧ jD32 26 (.ireturn, 1) := by decide +kernel
theorem own_ef_rm_cp (mM : MethodId) (x0 : Addr) (x1 : Int32) : entryFrame mM #[(.ref x0), (.int x1)] 3 = mkF mM 0 #[.val (.ref x0), .val (.int x1), .unset] [] := by first | (simp [entryFrame, mkF, argsToLocals, Value.category]; done) | rfl
def Q_rm_cp (Z : State) (a : Addr) (t : Addr) (i1 : Int32) (z : Int32) (f : Int32 → Int32) (cs : Int32) (fv : Value) (h0 : Heap) (n0 : Nat) (vV : Option Value) (hH : Heap) (lA : List Loc) : Prop := vV = some (.int (own_ch (f i1))) ∧ Fr n0 lA ∧ (hH = h0)
set_option maxRecDepth 65536 in
set_option maxHeartbeats 40000000 in
theorem rm_cp (lL : Launch) (Z : State) (a0 : Array Value) (hw : own_H a0 Z) (ws : List Jvm.Cond) (a : Addr) (t : Addr) (i1 : Int32) (z : Int32) (f : Int32 → Int32) (cs : Int32) (fv : Value) (h0 : Heap) (n0 : Nat) (Z0 : n0 ≤ h0.size) (Oo : Old Z n0 h0) (Scs : Sta Z Z.heap "java/lang/String" "COMPACT_STRINGS" "Z" (.int cs)) (ncs : ¬ (cs = (0 : Int32))) (Sfv : Sta Z Z.heap "jdk/internal/util/Preconditions" "SIOOBE_FORMATTER" "Ljava/util/function/BiFunction;" fv) (rfv : fv.isRef = true) (E : jE0 Z h0 a) (Fv : jF1 Z h0 a (.ref t)) (Fc : jF0 Z h0 a (.int (0 : Int32))) (Tt : own_T Z h0 t .byte z f) (h1 : ¬ (i1 < (0 : Int32))) (h2 : i1 < z) :
    own_Met lL jy32 (Jvm.Cond.code jy32 jdk_42_method_57_code 3 (some .int) :: ws) jr3 #[(.ref a), (.int i1)] Z h0 (Q_rm_cp Z a t i1 z f cs fv h0 n0) := by
  refine own_begin (plainFor_of_name own_pn_java_lang_String) (fun mM => own_ef_rm_cp mM a i1) fun pP eE sS mM below meth cC s₁ hx hby hml hZ hown hnm hre hlk X0 e0 => ?_
  have hC := @Jvm.hb _ _ hby
  have N0 := Fr.nil n0
  have K0 := Keep.refl h0 ([] : List Addr)
  refine jg s₁ mM 1 #[vR a, vI i1, vU] [(.ref a)] (fun tT kK => ?_) ?_
  · refine XS.aloadN X0.here hx rfl (hC e39_0.1) rfl rfl ?_
    exact kK
  refine jv X0 hx hZ (y := jy4) hown (jk hw 23 rfl) (jk hw 24 rfl) (jk hw 26 rfl) (jk hw 25 rfl) (jk hw 27 rfl) (jk hw 11 rfl) (rm_isl lL Z a0 hw [] a cs h0 n0 (Nat.le_trans Z0 K0.1) Oo Scs ncs Fc) E e0 own_pd3 [] [] (hC e39_0.2.1) rfl rfl (by rw [hml]; rfl) (by decide) 0 (Nat.le_of_eq rfl) (by decide) (by decide) (by decide : 0 + 0 ≤ _) (by decide : 0 + 0 ≤ _) fun vv1_ T1_ L1_ X1_ hQ1_ => ?_
  obtain ⟨rfl, N1_q, p1__0⟩ := hQ1_
  have N1_ := Fr.app N0 N1_q
  refine jg T1_ mM 9 #[vR a, vI i1, vU] [(.ref a), (.int i1)] (fun tT kK => ?_) ?_
  · refine XS.ifNo X1_.here hx rfl (hC e39_0.2.2.1) rfl ((if0 _ _).trans (feq ((by decide) : ¬ ((1 : Int32) = (0 : Int32)))).1) ?_
    refine XS.iloadN X1_.here hx rfl (hC e39_0.2.2.2) rfl ?_
    refine XS.aloadN X1_.here hx rfl (hC e39_8.1) rfl rfl ?_
    exact kK
  refine jf X1_ hx hZ hown (jk hw 30 rfl) p1__0 Fv (hC e39_8.2.1) fun T2_ X2_ e2_ => ?_
  obtain ⟨cl3_, Ar3_, Sz3_, Nn3_, -⟩ := id Tt
  refine jg T2_ mM 13 #[vR a, vI i1, vU] [(.int z), (.int i1)] (fun tT kK => ?_) ?_
  · refine X2_.arraylength hx (own_rw e2_ Ar3_.1) (State.isArrayOf_alike hZ.alike Ar3_.2.1) (g := (mkF mM 12 #[vR a, vI i1, vU] [(.ref t), (.int i1)])) rfl rfl (hC e39_8.2.2.1) _ ?_
    rw [len_of Sz3_ Nn3_]
    exact kK
  refine jc X2_ hx hZ (y := jy3) hown (jk hw 184 rfl) (jk hw 36 rfl) (jk hw 11 rfl) (jk hw 37 rfl) (rm_chk lL Z a0 hw [] i1 z fv h0 n0 (Nat.le_trans Z0 K0.1) Oo Sfv rfv h1 h2) e2_ own_pd2 [(.int i1), (.int z)] [] (hC e39_8.2.2.2) rfl rfl (by rw [hml]; rfl) (by decide) 0 (Nat.le_of_eq rfl) (by decide) (by decide) (by decide : 0 + 0 ≤ _) (by decide : 0 + 0 ≤ _) fun vv4_ T4_ L4_ X4_ hQ4_ => ?_
  obtain ⟨rfl, N4_q, p4__0⟩ := hQ4_
  have N4_ := Fr.app N1_ N4_q
  refine jg T4_ mM 17 #[vR a, vI i1, vU] [(.ref a)] (fun tT kK => ?_) ?_
  · refine XS.aloadN X4_.here hx rfl (hC e39_16.1) rfl rfl ?_
    exact kK
  refine jf X4_ hx hZ hown (jk hw 30 rfl) p4__0 Fv (hC e39_16.2.1) fun T5_ X5_ e5_ => ?_
  refine jg T5_ mM 21 #[vR a, vI i1, vU] [(.int i1), (.ref t)] (fun tT kK => ?_) ?_
  · refine XS.iloadN X5_.here hx rfl (hC e39_16.2.2.1) rfl ?_
    exact kK
  obtain ⟨cl6_, Ar6_, Sz6_, Nn6_, Hh6_⟩ := id Tt
  have hin6_ : ¬ (i1 < 0 ∨ cl6_.slots.size ≤ (i1).toNatClampNeg) := inb_of Sz6_ ⟨h1, h2⟩
  have hat6_ : cl6_.slots[(i1).toNatClampNeg]? = some (.int (f i1)) := Hh6_ _ hin6_
  refine jg T5_ mM 26 #[vR a, vI i1, vU] [(.int ((f i1) &&& (255 : Int32)))] (fun tT kK => ?_) ?_
  · refine X5_.baloadBytes hx (j := i1) (v := (.int (f i1))) (own_rw e5_ Ar6_.1) (State.isArrayOf_alike hZ.alike Ar6_.2.1) Ar6_.2.2 hin6_ hat6_ (g := (mkF mM 21 #[vR a, vI i1, vU] [(.int i1), (.ref t)])) rfl rfl (hC e39_16.2.2.2) _ ?_
    refine XS.sipush X5_.here hx rfl (hC e39_22.1) ?_
    refine XS.iand X5_.here hx rfl (hC e39_22.2.1) rfl ?_
    exact kK
  exact own_rr X5_ hx hlk hre rfl (Or.inl ⟨rfl, Or.inl rfl, _, rfl⟩) (hC e39_22.2.2) e5_ (by decide) (by decide) ⟨rfl, N4_, rfl⟩
theorem e24_0 : jD33 0 (.iconst 0, 1) ∧ jD33 1 (.istore_n 1, 1) ∧ jD33 2 (.iconst 0, 1) ∧ jD33 3 (.istore_n 2, 1) := by decide +kernel
theorem e24_4 : jD33 4 (.iload_n 1, 1) ∧ jD33 5 (.ifCond .lt 85, 3) ∧ jD33 8 (.iload_n 2, 1) ∧ jD33 9 (.aload_n 0, 1) := by decide +kernel
theorem e24_10 : jD33 10 (.invokevirtual 43, 3) ∧ jD33 13 (.if_icmp .ge 77, 3) ∧ jD33 90 (.iload_n 1, 1) ∧ jD33 91 (.ireturn, 1) := by decide +kernel
theorem own_ef_rm_ul0 (mM : MethodId) (x0 : Addr) : entryFrame mM #[(.ref x0)] 4 = mkF mM 0 #[.val (.ref x0), .unset, .unset, .unset] [] := by first | (simp [entryFrame, mkF, argsToLocals, Value.category]; done) | rfl
def Q_rm_ul0 (Z : State) (a : Addr) (t : Addr) (f : Int32 → Int32) (cs : Int32) (fv : Value) (h0 : Heap) (n0 : Nat) (vV : Option Value) (hH : Heap) (lA : List Loc) : Prop := ∃ v' : Int32, vV = some (.int v') ∧ Fr n0 lA ∧ (hH = h0) ∧ (0 ≤ v'.toInt ∧ v'.toInt ≤ 4)
set_option maxRecDepth 65536 in
set_option maxHeartbeats 40000000 in
theorem rm_ul0 (lL : Launch) (Z : State) (a0 : Array Value) (hw : own_H a0 Z) (ws : List Jvm.Cond) (a : Addr) (t : Addr) (f : Int32 → Int32) (cs : Int32) (fv : Value) (h0 : Heap) (n0 : Nat) (Z0 : n0 ≤ h0.size) (Oo : Old Z n0 h0) (Scs : Sta Z Z.heap "java/lang/String" "COMPACT_STRINGS" "Z" (.int cs)) (ncs : ¬ (cs = (0 : Int32))) (Sfv : Sta Z Z.heap "jdk/internal/util/Preconditions" "SIOOBE_FORMATTER" "Ljava/util/function/BiFunction;" fv) (rfv : fv.isRef = true) (E : jE0 Z h0 a) (Fv : jF1 Z h0 a (.ref t)) (Fc : jF0 Z h0 a (.int (0 : Int32))) (Tt : own_T Z h0 t .byte (0 : Int32) f) :
    own_Met lL jy33 (Jvm.Cond.code jy33 prog_14_method_8_code 4 (some .int) :: ws) jr17 #[(.ref a)] Z h0 (Q_rm_ul0 Z a t f cs fv h0 n0) := by
  refine own_begin (plainFor_of_name own_pn_com_example_waldrapp_waldrapp_Intent) (fun mM => own_ef_rm_ul0 mM a) fun pP eE sS mM below meth cC s₁ hx hby hml hZ hown hnm hre hlk X0 e0 => ?_
  have hC := @Jvm.hb _ _ hby
  have N0 := Fr.nil n0
  have K0 := Keep.refl h0 ([] : List Addr)
  have ez1 : (1 : Int32).toInt = 1 := rfl
  have ez2 : (2 : Int32).toInt = 2 := rfl
  have ez0 : (0 : Int32).toInt = 0 := rfl
  let ll1 : Array Slot := #[vR a, vI 0, vI 0, vU]
  refine jg s₁ mM 10 ll1 [(.ref a), (.int (0 : Int32))] (fun tT kK => ?_) ?_
  · refine XS.iconst X0.here hx rfl (hC e24_0.1) ?_
    let ll2 : Array Slot := #[vR a, vI 0, vU, vU]
    refine XS.istoreN X0.here hx rfl (hC e24_0.2.1) rfl (l' := ll2) rfl ?_
    refine XS.iconst X0.here hx rfl (hC e24_0.2.2.1) ?_
    refine XS.istoreN X0.here hx rfl (hC e24_0.2.2.2) rfl (l' := ll1) rfl ?_
    refine XS.iloadN X0.here hx rfl (hC e24_4.1) rfl ?_
    refine XS.ifNo X0.here hx rfl (hC e24_4.2.1) rfl ((if0 _ _).trans (flt ((by decide) : ¬ ((0 : Int32) < (0 : Int32)))).1) ?_
    refine XS.iloadN X0.here hx rfl (hC e24_4.2.2.1) rfl ?_
    refine XS.aloadN X0.here hx rfl (hC e24_4.2.2.2) rfl rfl ?_
    exact kK
  refine jv X0 hx hZ (y := jy1) hown (jk hw 87 rfl) (jk hw 88 rfl) (jk hw 90 rfl) (jk hw 89 rfl) (jk hw 91 rfl) (jk hw 11 rfl) (rm_slen lL Z a0 hw [] a t (0 : Int32) f cs h0 n0 (Nat.le_trans Z0 K0.1) Oo Scs ncs E Fv Fc Tt) E e0 own_pd12 [] [(.int (0 : Int32))] (hC e24_10.1) rfl rfl (by rw [hml]; rfl) (by decide) 1 (Nat.le_of_eq rfl) (by decide) (by decide) (by decide : 0 + 0 ≤ _) (by decide : 0 + 0 ≤ _) fun vv1_ T1_ L1_ X1_ hQ1_ => ?_
  obtain ⟨rfl, N1_q, p1__0⟩ := hQ1_
  have N1_ := Fr.app N0 N1_q
  refine jg T1_ mM 91 ll1 [(.int (0 : Int32))] (fun tT kK => ?_) ?_
  · refine XS.icmpYes X1_.here hx rfl (pc0 := 13) (pc' := 90) rfl (hC e24_10.2.1) rfl (flt ((by decide) : ¬ ((0 : Int32) < (0 : Int32)))).2.1 (by decide) (by decide) ?_
    refine XS.iloadN X1_.here hx rfl (hC e24_10.2.2.1) rfl ?_
    exact kK
  exact own_rr X1_ hx hlk hre rfl (Or.inl ⟨rfl, Or.inl rfl, _, rfl⟩) (hC e24_10.2.2.2) p1__0 (by decide) (by decide) ⟨(0 : Int32), rfl, N1_, rfl, by decide⟩
theorem e24_16 : jD33 16 (.aload_n 0, 1) ∧ jD33 17 (.iload_n 2, 1) ∧ jD33 18 (.invokevirtual 129, 3) ∧ jD33 21 (.istore_n 3, 1) := by decide +kernel
theorem e24_22 : jD33 22 (.iload_n 3, 1) ∧ jD33 23 (.sipush 128, 3) ∧ jD33 26 (.if_icmp .ge 9, 3) ∧ jD33 29 (.iinc 1 1, 3) := by decide +kernel
theorem e24_32 : jD33 32 (.goto 48, 3) ∧ jD33 35 (.iload_n 3, 1) ∧ jD33 36 (.sipush 2048, 3) ∧ jD33 39 (.if_icmp .ge 9, 3) := by decide +kernel
theorem e24_42 : jD33 42 (.iinc 1 2, 3) ∧ jD33 45 (.goto 35, 3) ∧ jD33 80 (.iload_n 2, 1) ∧ jD33 81 (.iload_n 3, 1) := by decide +kernel
theorem e24_82 : jD33 82 (.invokestatic 136, 3) ∧ jD33 85 (.iadd, 1) ∧ jD33 86 (.istore_n 2, 1) ∧ jD33 87 (.goto (-83), 3) := by decide +kernel
theorem own_ef_rm_ul1 (mM : MethodId) (x0 : Addr) : entryFrame mM #[(.ref x0)] 4 = mkF mM 0 #[.val (.ref x0), .unset, .unset, .unset] [] := by first | (simp [entryFrame, mkF, argsToLocals, Value.category]; done) | rfl
def Q_rm_ul1 (Z : State) (a : Addr) (t : Addr) (f : Int32 → Int32) (cs : Int32) (fv : Value) (h0 : Heap) (n0 : Nat) (vV : Option Value) (hH : Heap) (lA : List Loc) : Prop := ∃ v' : Int32, vV = some (.int v') ∧ Fr n0 lA ∧ (hH = h0) ∧ (0 ≤ v'.toInt ∧ v'.toInt ≤ 4)
set_option maxRecDepth 65536 in
set_option maxHeartbeats 40000000 in
theorem rm_ul1 (lL : Launch) (Z : State) (a0 : Array Value) (hw : own_H a0 Z) (ws : List Jvm.Cond) (a : Addr) (t : Addr) (f : Int32 → Int32) (cs : Int32) (fv : Value) (h0 : Heap) (n0 : Nat) (Z0 : n0 ≤ h0.size) (Oo : Old Z n0 h0) (Scs : Sta Z Z.heap "java/lang/String" "COMPACT_STRINGS" "Z" (.int cs)) (ncs : ¬ (cs = (0 : Int32))) (Sfv : Sta Z Z.heap "jdk/internal/util/Preconditions" "SIOOBE_FORMATTER" "Ljava/util/function/BiFunction;" fv) (rfv : fv.isRef = true) (E : jE0 Z h0 a) (Fv : jF1 Z h0 a (.ref t)) (Fc : jF0 Z h0 a (.int (0 : Int32))) (Tt : own_T Z h0 t .byte (1 : Int32) f) :
    own_Met lL jy33 (Jvm.Cond.code jy33 prog_14_method_8_code 4 (some .int) :: ws) jr18 #[(.ref a)] Z h0 (Q_rm_ul1 Z a t f cs fv h0 n0) := by
  refine own_begin (plainFor_of_name own_pn_com_example_waldrapp_waldrapp_Intent) (fun mM => own_ef_rm_ul1 mM a) fun pP eE sS mM below meth cC s₁ hx hby hml hZ hown hnm hre hlk X0 e0 => ?_
  have hC := @Jvm.hb _ _ hby
  have N0 := Fr.nil n0
  have K0 := Keep.refl h0 ([] : List Addr)
  have ez1 : (1 : Int32).toInt = 1 := rfl
  have ez2 : (2 : Int32).toInt = 2 := rfl
  have ez0 : (0 : Int32).toInt = 0 := rfl
  let ll1 : Array Slot := #[vR a, vI 0, vI 0, vU]
  refine jg s₁ mM 10 ll1 [(.ref a), (.int (0 : Int32))] (fun tT kK => ?_) ?_
  · refine XS.iconst X0.here hx rfl (hC e24_0.1) ?_
    let ll2 : Array Slot := #[vR a, vI 0, vU, vU]
    refine XS.istoreN X0.here hx rfl (hC e24_0.2.1) rfl (l' := ll2) rfl ?_
    refine XS.iconst X0.here hx rfl (hC e24_0.2.2.1) ?_
    refine XS.istoreN X0.here hx rfl (hC e24_0.2.2.2) rfl (l' := ll1) rfl ?_
    refine XS.iloadN X0.here hx rfl (hC e24_4.1) rfl ?_
    refine XS.ifNo X0.here hx rfl (hC e24_4.2.1) rfl ((if0 _ _).trans (flt ((by decide) : ¬ ((0 : Int32) < (0 : Int32)))).1) ?_
    refine XS.iloadN X0.here hx rfl (hC e24_4.2.2.1) rfl ?_
    refine XS.aloadN X0.here hx rfl (hC e24_4.2.2.2) rfl rfl ?_
    exact kK
  refine jv X0 hx hZ (y := jy1) hown (jk hw 87 rfl) (jk hw 88 rfl) (jk hw 90 rfl) (jk hw 89 rfl) (jk hw 91 rfl) (jk hw 11 rfl) (rm_slen lL Z a0 hw [] a t (1 : Int32) f cs h0 n0 (Nat.le_trans Z0 K0.1) Oo Scs ncs E Fv Fc Tt) E e0 own_pd12 [] [(.int (0 : Int32))] (hC e24_10.1) rfl rfl (by rw [hml]; rfl) (by decide) 1 (Nat.le_of_eq rfl) (by decide) (by decide) (by decide : 0 + 0 ≤ _) (by decide : 0 + 0 ≤ _) fun vv1_ T1_ L1_ X1_ hQ1_ => ?_
  obtain ⟨rfl, N1_q, p1__0⟩ := hQ1_
  have N1_ := Fr.app N0 N1_q
  refine jg T1_ mM 18 ll1 [(.int (0 : Int32)), (.ref a)] (fun tT kK => ?_) ?_
  · refine XS.icmpNo X1_.here hx rfl (hC e24_10.2.1) rfl (tlt ((by decide) : (0 : Int32) < (1 : Int32))).2.1 ?_
    refine XS.aloadN X1_.here hx rfl (hC e24_16.1) rfl rfl ?_
    refine XS.iloadN X1_.here hx rfl (hC e24_16.2.1) rfl ?_
    exact kK
  refine jv X1_ hx hZ (y := jy32) hown (jk hw 179 rfl) (jk hw 180 rfl) (jk hw 182 rfl) (jk hw 181 rfl) (jk hw 183 rfl) (jk hw 11 rfl) (rm_cp lL Z a0 hw [] a t (0 : Int32) (1 : Int32) f cs fv h0 n0 (Nat.le_trans Z0 K0.1) Oo Scs ncs Sfv rfv E Fv Fc Tt (by decide) (by decide)) E p1__0 own_pd16 [(.int (0 : Int32))] [] (hC e24_16.2.2.1) rfl rfl (by rw [hml]; rfl) (by decide) 0 (Nat.le_of_eq rfl) (by decide) (by decide) (by decide : 0 + 0 ≤ _) (by decide : 0 + 0 ≤ _) fun vv2_ T2_ L2_ X2_ hQ2_ => ?_
  obtain ⟨rfl, N2_q, p2__0⟩ := hQ2_
  have N2_ := Fr.app N1_ N2_q
  let ll3 : Array Slot := #[vR a, vI 0, vI 0, vI (own_ch (f (0 : Int32)))]
  refine jg T2_ mM 22 ll3 [] (fun tT kK => ?_) ?_
  · refine XS.istoreN X2_.here hx rfl (hC e24_16.2.2.2) rfl (l' := ll3) rfl ?_
    exact kK
  obtain ⟨v0, hv0, st3_⟩ : ∃ v0 : Int32, (v0 = (if (own_ch (f (0 : Int32))) < (128 : Int32) then (1 : Int32) else (2 : Int32))) ∧ ∀ tT, Steps pP.tables eE below (T2_.setTop (mkF mM 80 #[.val (.ref a), .val (.int v0), .val (.int (0 : Int32)), .val (.int (own_ch (f (0 : Int32))))] [])) tT → Steps pP.tables eE below (T2_.setTop (mkF mM 22 #[.val (.ref a), .val (.int (0 : Int32)), .val (.int (0 : Int32)), .val (.int (own_ch (f (0 : Int32))))] [])) tT := by
    by_cases hm1 : (own_ch (f (0 : Int32))) < (128 : Int32)
    · refine ⟨(1 : Int32), by rw [if_pos hm1], fun tT kK => ?_⟩
      refine XS.iloadN X2_.here hx rfl (hC e24_22.1) rfl ?_
      refine XS.sipush X2_.here hx rfl (hC e24_22.2.1) ?_
      refine XS.icmpNo X2_.here hx rfl (hC e24_22.2.2.1) rfl (tlt (hm1 : (own_ch (f (0 : Int32))) < (128 : Int32))).2.1 ?_
      let ll4 : Array Slot := #[vR a, vI 1, vI 0, vI (own_ch (f (0 : Int32)))]
      refine XS.iinc X2_.here hx rfl (hC e24_22.2.2.2) rfl (l' := ll4) rfl ?_
      refine XS.goto X2_.here hx rfl (pc0 := 32) (pc' := 80) rfl (hC e24_32.1) (by decide) (by decide) ?_
      exact kK
    · refine ⟨(2 : Int32), by rw [if_neg hm1], fun tT kK => ?_⟩
      refine XS.iloadN X2_.here hx rfl (hC e24_22.1) rfl ?_
      refine XS.sipush X2_.here hx rfl (hC e24_22.2.1) ?_
      refine XS.icmpYes X2_.here hx rfl (pc0 := 26) (pc' := 35) rfl (hC e24_22.2.2.1) rfl (flt (hm1 : ¬ ((own_ch (f (0 : Int32))) < (128 : Int32)))).2.1 (by decide) (by decide) ?_
      refine XS.iloadN X2_.here hx rfl (hC e24_32.2.1) rfl ?_
      refine XS.sipush X2_.here hx rfl (hC e24_32.2.2.1) ?_
      refine XS.icmpNo X2_.here hx rfl (hC e24_32.2.2.2) rfl (tlt ((own_lt2 _).1 : (own_ch (f (0 : Int32))) < (2048 : Int32))).2.1 ?_
      let ll5 : Array Slot := #[vR a, vI 2, vI 0, vI (own_ch (f (0 : Int32)))]
      refine XS.iinc X2_.here hx rfl (hC e24_42.1) rfl (l' := ll5) rfl ?_
      refine XS.goto X2_.here hx rfl (pc0 := 45) (pc' := 80) rfl (hC e24_42.2.1) (by decide) (by decide) ?_
      exact kK
  refine own_fin st3_ ?_
  have b0 : 0 ≤ v0.toInt ∧ v0.toInt ≤ 2 := by
    rw [hv0]
    split <;> decide
  let ll6 : Array Slot := #[vR a, vI v0, vI 0, vI (own_ch (f (0 : Int32)))]
  refine jg T2_ mM 82 ll6 [(.int (own_ch (f (0 : Int32)))), (.int (0 : Int32))] (fun tT kK => ?_) ?_
  · refine XS.iloadN X2_.here hx rfl (hC e24_42.2.2.1) rfl ?_
    refine XS.iloadN X2_.here hx rfl (hC e24_42.2.2.2) rfl ?_
    exact kK
  refine jc X2_ hx hZ (y := jy31) hown (jk hw 185 rfl) (jk hw 186 rfl) (jk hw 187 rfl) (jk hw 188 rfl) (rm_cc lL Z a0 hw [] (own_ch (f (0 : Int32))) h0 n0 (Nat.le_trans Z0 K0.1) (own_lt2 _).2) p2__0 own_pd16 [(.int (own_ch (f (0 : Int32))))] [(.int (0 : Int32))] (hC e24_82.1) rfl rfl (by rw [hml]; rfl) (by decide) 1 (Nat.le_of_eq rfl) (by decide) (by decide) (by decide : 0 + 0 ≤ _) (by decide : 0 + 0 ≤ _) fun vv4_ T4_ L4_ X4_ hQ4_ => ?_
  obtain ⟨rfl, N4_q, p4__0⟩ := hQ4_
  have N4_ := Fr.app N2_ N4_q
  let ll7 : Array Slot := #[vR a, vI v0, vI 1, vI (own_ch (f (0 : Int32)))]
  refine jg T4_ mM 10 ll7 [(.ref a), (.int (1 : Int32))] (fun tT kK => ?_) ?_
  · refine XS.iadd X4_.here hx rfl (hC e24_82.2.1) rfl ?_
    refine XS.istoreN X4_.here hx rfl (hC e24_82.2.2.1) rfl (l' := ll7) rfl ?_
    refine XS.goto X4_.here hx rfl (pc0 := 87) (pc' := 4) rfl (hC e24_82.2.2.2) (by decide) (by decide) ?_
    refine XS.iloadN X4_.here hx rfl (hC e24_4.1) rfl ?_
    refine XS.ifNo X4_.here hx rfl (hC e24_4.2.1) rfl ((if0 _ _).trans (flt ((fun q => by rw [Int32.lt_iff_toInt_lt, ez0] at q; omega) : ¬ (v0 < (0 : Int32)))).1) ?_
    refine XS.iloadN X4_.here hx rfl (hC e24_4.2.2.1) rfl ?_
    refine XS.aloadN X4_.here hx rfl (hC e24_4.2.2.2) rfl rfl ?_
    exact kK
  refine jv X4_ hx hZ (y := jy1) hown (jk hw 87 rfl) (jk hw 88 rfl) (jk hw 90 rfl) (jk hw 89 rfl) (jk hw 91 rfl) (jk hw 11 rfl) (rm_slen lL Z a0 hw [] a t (1 : Int32) f cs h0 n0 (Nat.le_trans Z0 K0.1) Oo Scs ncs E Fv Fc Tt) E p4__0 own_pd12 [] [(.int (1 : Int32))] (hC e24_10.1) rfl rfl (by rw [hml]; rfl) (by decide) 1 (Nat.le_of_eq rfl) (by decide) (by decide) (by decide : 0 + 0 ≤ _) (by decide : 0 + 0 ≤ _) fun vv5_ T5_ L5_ X5_ hQ5_ => ?_
  obtain ⟨rfl, N5_q, p5__0⟩ := hQ5_
  have N5_ := Fr.app N4_ N5_q
  refine jg T5_ mM 91 ll7 [(.int v0)] (fun tT kK => ?_) ?_
  · refine XS.icmpYes X5_.here hx rfl (pc0 := 13) (pc' := 90) rfl (hC e24_10.2.1) rfl (flt ((by decide) : ¬ ((1 : Int32) < (1 : Int32)))).2.1 (by decide) (by decide) ?_
    refine XS.iloadN X5_.here hx rfl (hC e24_10.2.2.1) rfl ?_
    exact kK
  exact own_rr X5_ hx hlk hre rfl (Or.inl ⟨rfl, Or.inl rfl, _, rfl⟩) (hC e24_10.2.2.2) p5__0 (by decide) (by decide) ⟨v0, rfl, N5_, rfl, by omega⟩
theorem own_ef_rm_ul2 (mM : MethodId) (x0 : Addr) : entryFrame mM #[(.ref x0)] 4 = mkF mM 0 #[.val (.ref x0), .unset, .unset, .unset] [] := by first | (simp [entryFrame, mkF, argsToLocals, Value.category]; done) | rfl
def Q_rm_ul2 (Z : State) (a : Addr) (t : Addr) (f : Int32 → Int32) (cs : Int32) (fv : Value) (h0 : Heap) (n0 : Nat) (vV : Option Value) (hH : Heap) (lA : List Loc) : Prop := ∃ v' : Int32, vV = some (.int v') ∧ Fr n0 lA ∧ (hH = h0) ∧ (0 ≤ v'.toInt ∧ v'.toInt ≤ 4)
set_option maxRecDepth 65536 in
set_option maxHeartbeats 40000000 in
theorem rm_ul2 (lL : Launch) (Z : State) (a0 : Array Value) (hw : own_H a0 Z) (ws : List Jvm.Cond) (a : Addr) (t : Addr) (f : Int32 → Int32) (cs : Int32) (fv : Value) (h0 : Heap) (n0 : Nat) (Z0 : n0 ≤ h0.size) (Oo : Old Z n0 h0) (Scs : Sta Z Z.heap "java/lang/String" "COMPACT_STRINGS" "Z" (.int cs)) (ncs : ¬ (cs = (0 : Int32))) (Sfv : Sta Z Z.heap "jdk/internal/util/Preconditions" "SIOOBE_FORMATTER" "Ljava/util/function/BiFunction;" fv) (rfv : fv.isRef = true) (E : jE0 Z h0 a) (Fv : jF1 Z h0 a (.ref t)) (Fc : jF0 Z h0 a (.int (0 : Int32))) (Tt : own_T Z h0 t .byte (2 : Int32) f) :
    own_Met lL jy33 (Jvm.Cond.code jy33 prog_14_method_8_code 4 (some .int) :: ws) jr18 #[(.ref a)] Z h0 (Q_rm_ul2 Z a t f cs fv h0 n0) := by
  refine own_begin (plainFor_of_name own_pn_com_example_waldrapp_waldrapp_Intent) (fun mM => own_ef_rm_ul2 mM a) fun pP eE sS mM below meth cC s₁ hx hby hml hZ hown hnm hre hlk X0 e0 => ?_
  have hC := @Jvm.hb _ _ hby
  have N0 := Fr.nil n0
  have K0 := Keep.refl h0 ([] : List Addr)
  have ez1 : (1 : Int32).toInt = 1 := rfl
  have ez2 : (2 : Int32).toInt = 2 := rfl
  have ez0 : (0 : Int32).toInt = 0 := rfl
  let ll1 : Array Slot := #[vR a, vI 0, vI 0, vU]
  refine jg s₁ mM 10 ll1 [(.ref a), (.int (0 : Int32))] (fun tT kK => ?_) ?_
  · refine XS.iconst X0.here hx rfl (hC e24_0.1) ?_
    let ll2 : Array Slot := #[vR a, vI 0, vU, vU]
    refine XS.istoreN X0.here hx rfl (hC e24_0.2.1) rfl (l' := ll2) rfl ?_
    refine XS.iconst X0.here hx rfl (hC e24_0.2.2.1) ?_
    refine XS.istoreN X0.here hx rfl (hC e24_0.2.2.2) rfl (l' := ll1) rfl ?_
    refine XS.iloadN X0.here hx rfl (hC e24_4.1) rfl ?_
    refine XS.ifNo X0.here hx rfl (hC e24_4.2.1) rfl ((if0 _ _).trans (flt ((by decide) : ¬ ((0 : Int32) < (0 : Int32)))).1) ?_
    refine XS.iloadN X0.here hx rfl (hC e24_4.2.2.1) rfl ?_
    refine XS.aloadN X0.here hx rfl (hC e24_4.2.2.2) rfl rfl ?_
    exact kK
  refine jv X0 hx hZ (y := jy1) hown (jk hw 87 rfl) (jk hw 88 rfl) (jk hw 90 rfl) (jk hw 89 rfl) (jk hw 91 rfl) (jk hw 11 rfl) (rm_slen lL Z a0 hw [] a t (2 : Int32) f cs h0 n0 (Nat.le_trans Z0 K0.1) Oo Scs ncs E Fv Fc Tt) E e0 own_pd12 [] [(.int (0 : Int32))] (hC e24_10.1) rfl rfl (by rw [hml]; rfl) (by decide) 1 (Nat.le_of_eq rfl) (by decide) (by decide) (by decide : 0 + 0 ≤ _) (by decide : 0 + 0 ≤ _) fun vv1_ T1_ L1_ X1_ hQ1_ => ?_
  obtain ⟨rfl, N1_q, p1__0⟩ := hQ1_
  have N1_ := Fr.app N0 N1_q
  refine jg T1_ mM 18 ll1 [(.int (0 : Int32)), (.ref a)] (fun tT kK => ?_) ?_
  · refine XS.icmpNo X1_.here hx rfl (hC e24_10.2.1) rfl (tlt ((by decide) : (0 : Int32) < (2 : Int32))).2.1 ?_
    refine XS.aloadN X1_.here hx rfl (hC e24_16.1) rfl rfl ?_
    refine XS.iloadN X1_.here hx rfl (hC e24_16.2.1) rfl ?_
    exact kK
  refine jv X1_ hx hZ (y := jy32) hown (jk hw 179 rfl) (jk hw 180 rfl) (jk hw 182 rfl) (jk hw 181 rfl) (jk hw 183 rfl) (jk hw 11 rfl) (rm_cp lL Z a0 hw [] a t (0 : Int32) (2 : Int32) f cs fv h0 n0 (Nat.le_trans Z0 K0.1) Oo Scs ncs Sfv rfv E Fv Fc Tt (by decide) (by decide)) E p1__0 own_pd16 [(.int (0 : Int32))] [] (hC e24_16.2.2.1) rfl rfl (by rw [hml]; rfl) (by decide) 0 (Nat.le_of_eq rfl) (by decide) (by decide) (by decide : 0 + 0 ≤ _) (by decide : 0 + 0 ≤ _) fun vv2_ T2_ L2_ X2_ hQ2_ => ?_
  obtain ⟨rfl, N2_q, p2__0⟩ := hQ2_
  have N2_ := Fr.app N1_ N2_q
  let ll3 : Array Slot := #[vR a, vI 0, vI 0, vI (own_ch (f (0 : Int32)))]
  refine jg T2_ mM 22 ll3 [] (fun tT kK => ?_) ?_
  · refine XS.istoreN X2_.here hx rfl (hC e24_16.2.2.2) rfl (l' := ll3) rfl ?_
    exact kK
  obtain ⟨v0, hv0, st3_⟩ : ∃ v0 : Int32, (v0 = (if (own_ch (f (0 : Int32))) < (128 : Int32) then (1 : Int32) else (2 : Int32))) ∧ ∀ tT, Steps pP.tables eE below (T2_.setTop (mkF mM 80 #[.val (.ref a), .val (.int v0), .val (.int (0 : Int32)), .val (.int (own_ch (f (0 : Int32))))] [])) tT → Steps pP.tables eE below (T2_.setTop (mkF mM 22 #[.val (.ref a), .val (.int (0 : Int32)), .val (.int (0 : Int32)), .val (.int (own_ch (f (0 : Int32))))] [])) tT := by
    by_cases hm1 : (own_ch (f (0 : Int32))) < (128 : Int32)
    · refine ⟨(1 : Int32), by rw [if_pos hm1], fun tT kK => ?_⟩
      refine XS.iloadN X2_.here hx rfl (hC e24_22.1) rfl ?_
      refine XS.sipush X2_.here hx rfl (hC e24_22.2.1) ?_
      refine XS.icmpNo X2_.here hx rfl (hC e24_22.2.2.1) rfl (tlt (hm1 : (own_ch (f (0 : Int32))) < (128 : Int32))).2.1 ?_
      let ll4 : Array Slot := #[vR a, vI 1, vI 0, vI (own_ch (f (0 : Int32)))]
      refine XS.iinc X2_.here hx rfl (hC e24_22.2.2.2) rfl (l' := ll4) rfl ?_
      refine XS.goto X2_.here hx rfl (pc0 := 32) (pc' := 80) rfl (hC e24_32.1) (by decide) (by decide) ?_
      exact kK
    · refine ⟨(2 : Int32), by rw [if_neg hm1], fun tT kK => ?_⟩
      refine XS.iloadN X2_.here hx rfl (hC e24_22.1) rfl ?_
      refine XS.sipush X2_.here hx rfl (hC e24_22.2.1) ?_
      refine XS.icmpYes X2_.here hx rfl (pc0 := 26) (pc' := 35) rfl (hC e24_22.2.2.1) rfl (flt (hm1 : ¬ ((own_ch (f (0 : Int32))) < (128 : Int32)))).2.1 (by decide) (by decide) ?_
      refine XS.iloadN X2_.here hx rfl (hC e24_32.2.1) rfl ?_
      refine XS.sipush X2_.here hx rfl (hC e24_32.2.2.1) ?_
      refine XS.icmpNo X2_.here hx rfl (hC e24_32.2.2.2) rfl (tlt ((own_lt2 _).1 : (own_ch (f (0 : Int32))) < (2048 : Int32))).2.1 ?_
      let ll5 : Array Slot := #[vR a, vI 2, vI 0, vI (own_ch (f (0 : Int32)))]
      refine XS.iinc X2_.here hx rfl (hC e24_42.1) rfl (l' := ll5) rfl ?_
      refine XS.goto X2_.here hx rfl (pc0 := 45) (pc' := 80) rfl (hC e24_42.2.1) (by decide) (by decide) ?_
      exact kK
  refine own_fin st3_ ?_
  have b0 : 0 ≤ v0.toInt ∧ v0.toInt ≤ 2 := by
    rw [hv0]
    split <;> decide
  let ll6 : Array Slot := #[vR a, vI v0, vI 0, vI (own_ch (f (0 : Int32)))]
  refine jg T2_ mM 82 ll6 [(.int (own_ch (f (0 : Int32)))), (.int (0 : Int32))] (fun tT kK => ?_) ?_
  · refine XS.iloadN X2_.here hx rfl (hC e24_42.2.2.1) rfl ?_
    refine XS.iloadN X2_.here hx rfl (hC e24_42.2.2.2) rfl ?_
    exact kK
  refine jc X2_ hx hZ (y := jy31) hown (jk hw 185 rfl) (jk hw 186 rfl) (jk hw 187 rfl) (jk hw 188 rfl) (rm_cc lL Z a0 hw [] (own_ch (f (0 : Int32))) h0 n0 (Nat.le_trans Z0 K0.1) (own_lt2 _).2) p2__0 own_pd16 [(.int (own_ch (f (0 : Int32))))] [(.int (0 : Int32))] (hC e24_82.1) rfl rfl (by rw [hml]; rfl) (by decide) 1 (Nat.le_of_eq rfl) (by decide) (by decide) (by decide : 0 + 0 ≤ _) (by decide : 0 + 0 ≤ _) fun vv4_ T4_ L4_ X4_ hQ4_ => ?_
  obtain ⟨rfl, N4_q, p4__0⟩ := hQ4_
  have N4_ := Fr.app N2_ N4_q
  let ll7 : Array Slot := #[vR a, vI v0, vI 1, vI (own_ch (f (0 : Int32)))]
  refine jg T4_ mM 10 ll7 [(.ref a), (.int (1 : Int32))] (fun tT kK => ?_) ?_
  · refine XS.iadd X4_.here hx rfl (hC e24_82.2.1) rfl ?_
    refine XS.istoreN X4_.here hx rfl (hC e24_82.2.2.1) rfl (l' := ll7) rfl ?_
    refine XS.goto X4_.here hx rfl (pc0 := 87) (pc' := 4) rfl (hC e24_82.2.2.2) (by decide) (by decide) ?_
    refine XS.iloadN X4_.here hx rfl (hC e24_4.1) rfl ?_
    refine XS.ifNo X4_.here hx rfl (hC e24_4.2.1) rfl ((if0 _ _).trans (flt ((fun q => by rw [Int32.lt_iff_toInt_lt, ez0] at q; omega) : ¬ (v0 < (0 : Int32)))).1) ?_
    refine XS.iloadN X4_.here hx rfl (hC e24_4.2.2.1) rfl ?_
    refine XS.aloadN X4_.here hx rfl (hC e24_4.2.2.2) rfl rfl ?_
    exact kK
  refine jv X4_ hx hZ (y := jy1) hown (jk hw 87 rfl) (jk hw 88 rfl) (jk hw 90 rfl) (jk hw 89 rfl) (jk hw 91 rfl) (jk hw 11 rfl) (rm_slen lL Z a0 hw [] a t (2 : Int32) f cs h0 n0 (Nat.le_trans Z0 K0.1) Oo Scs ncs E Fv Fc Tt) E p4__0 own_pd12 [] [(.int (1 : Int32))] (hC e24_10.1) rfl rfl (by rw [hml]; rfl) (by decide) 1 (Nat.le_of_eq rfl) (by decide) (by decide) (by decide : 0 + 0 ≤ _) (by decide : 0 + 0 ≤ _) fun vv5_ T5_ L5_ X5_ hQ5_ => ?_
  obtain ⟨rfl, N5_q, p5__0⟩ := hQ5_
  have N5_ := Fr.app N4_ N5_q
  refine jg T5_ mM 18 ll7 [(.int (1 : Int32)), (.ref a)] (fun tT kK => ?_) ?_
  · refine XS.icmpNo X5_.here hx rfl (hC e24_10.2.1) rfl (tlt ((by decide) : (1 : Int32) < (2 : Int32))).2.1 ?_
    refine XS.aloadN X5_.here hx rfl (hC e24_16.1) rfl rfl ?_
    refine XS.iloadN X5_.here hx rfl (hC e24_16.2.1) rfl ?_
    exact kK
  refine jv X5_ hx hZ (y := jy32) hown (jk hw 179 rfl) (jk hw 180 rfl) (jk hw 182 rfl) (jk hw 181 rfl) (jk hw 183 rfl) (jk hw 11 rfl) (rm_cp lL Z a0 hw [] a t (1 : Int32) (2 : Int32) f cs fv h0 n0 (Nat.le_trans Z0 K0.1) Oo Scs ncs Sfv rfv E Fv Fc Tt (by decide) (by decide)) E p5__0 own_pd16 [(.int (1 : Int32))] [] (hC e24_16.2.2.1) rfl rfl (by rw [hml]; rfl) (by decide) 0 (Nat.le_of_eq rfl) (by decide) (by decide) (by decide : 0 + 0 ≤ _) (by decide : 0 + 0 ≤ _) fun vv6_ T6_ L6_ X6_ hQ6_ => ?_
  obtain ⟨rfl, N6_q, p6__0⟩ := hQ6_
  have N6_ := Fr.app N5_ N6_q
  let ll8 : Array Slot := #[vR a, vI v0, vI 1, vI (own_ch (f (1 : Int32)))]
  refine jg T6_ mM 22 ll8 [] (fun tT kK => ?_) ?_
  · refine XS.istoreN X6_.here hx rfl (hC e24_16.2.2.2) rfl (l' := ll8) rfl ?_
    exact kK
  obtain ⟨v1, hv1, st7_⟩ : ∃ v1 : Int32, (v1 = (if (own_ch (f (1 : Int32))) < (128 : Int32) then (v0 + (1 : Int32)) else (v0 + (2 : Int32)))) ∧ ∀ tT, Steps pP.tables eE below (T6_.setTop (mkF mM 80 #[.val (.ref a), .val (.int v1), .val (.int (1 : Int32)), .val (.int (own_ch (f (1 : Int32))))] [])) tT → Steps pP.tables eE below (T6_.setTop (mkF mM 22 #[.val (.ref a), .val (.int v0), .val (.int (1 : Int32)), .val (.int (own_ch (f (1 : Int32))))] [])) tT := by
    by_cases hm1 : (own_ch (f (1 : Int32))) < (128 : Int32)
    · refine ⟨(v0 + (1 : Int32)), by rw [if_pos hm1], fun tT kK => ?_⟩
      refine XS.iloadN X6_.here hx rfl (hC e24_22.1) rfl ?_
      refine XS.sipush X6_.here hx rfl (hC e24_22.2.1) ?_
      refine XS.icmpNo X6_.here hx rfl (hC e24_22.2.2.1) rfl (tlt (hm1 : (own_ch (f (1 : Int32))) < (128 : Int32))).2.1 ?_
      let ll9 : Array Slot := #[vR a, vI (v0 + (1 : Int32)), vI 1, vI (own_ch (f (1 : Int32)))]
      refine XS.iinc X6_.here hx rfl (hC e24_22.2.2.2) rfl (l' := ll9) rfl ?_
      refine XS.goto X6_.here hx rfl (pc0 := 32) (pc' := 80) rfl (hC e24_32.1) (by decide) (by decide) ?_
      exact kK
    · refine ⟨(v0 + (2 : Int32)), by rw [if_neg hm1], fun tT kK => ?_⟩
      refine XS.iloadN X6_.here hx rfl (hC e24_22.1) rfl ?_
      refine XS.sipush X6_.here hx rfl (hC e24_22.2.1) ?_
      refine XS.icmpYes X6_.here hx rfl (pc0 := 26) (pc' := 35) rfl (hC e24_22.2.2.1) rfl (flt (hm1 : ¬ ((own_ch (f (1 : Int32))) < (128 : Int32)))).2.1 (by decide) (by decide) ?_
      refine XS.iloadN X6_.here hx rfl (hC e24_32.2.1) rfl ?_
      refine XS.sipush X6_.here hx rfl (hC e24_32.2.2.1) ?_
      refine XS.icmpNo X6_.here hx rfl (hC e24_32.2.2.2) rfl (tlt ((own_lt2 _).1 : (own_ch (f (1 : Int32))) < (2048 : Int32))).2.1 ?_
      let ll10 : Array Slot := #[vR a, vI (v0 + (2 : Int32)), vI 1, vI (own_ch (f (1 : Int32)))]
      refine XS.iinc X6_.here hx rfl (hC e24_42.1) rfl (l' := ll10) rfl ?_
      refine XS.goto X6_.here hx rfl (pc0 := 45) (pc' := 80) rfl (hC e24_42.2.1) (by decide) (by decide) ?_
      exact kK
  refine own_fin st7_ ?_
  have b1 : 0 ≤ v1.toInt ∧ v1.toInt ≤ 4 := by
    rw [hv1]
    split
    · have a := c_iadd v0 (1 : Int32)
      have r := rng32 (v0 + (1 : Int32))
      omega
    · have a := c_iadd v0 (2 : Int32)
      have r := rng32 (v0 + (2 : Int32))
      omega
  let ll11 : Array Slot := #[vR a, vI v1, vI 1, vI (own_ch (f (1 : Int32)))]
  refine jg T6_ mM 82 ll11 [(.int (own_ch (f (1 : Int32)))), (.int (1 : Int32))] (fun tT kK => ?_) ?_
  · refine XS.iloadN X6_.here hx rfl (hC e24_42.2.2.1) rfl ?_
    refine XS.iloadN X6_.here hx rfl (hC e24_42.2.2.2) rfl ?_
    exact kK
  refine jc X6_ hx hZ (y := jy31) hown (jk hw 185 rfl) (jk hw 186 rfl) (jk hw 187 rfl) (jk hw 188 rfl) (rm_cc lL Z a0 hw [] (own_ch (f (1 : Int32))) h0 n0 (Nat.le_trans Z0 K0.1) (own_lt2 _).2) p6__0 own_pd16 [(.int (own_ch (f (1 : Int32))))] [(.int (1 : Int32))] (hC e24_82.1) rfl rfl (by rw [hml]; rfl) (by decide) 1 (Nat.le_of_eq rfl) (by decide) (by decide) (by decide : 0 + 0 ≤ _) (by decide : 0 + 0 ≤ _) fun vv8_ T8_ L8_ X8_ hQ8_ => ?_
  obtain ⟨rfl, N8_q, p8__0⟩ := hQ8_
  have N8_ := Fr.app N6_ N8_q
  let ll12 : Array Slot := #[vR a, vI v1, vI 2, vI (own_ch (f (1 : Int32)))]
  refine jg T8_ mM 10 ll12 [(.ref a), (.int (2 : Int32))] (fun tT kK => ?_) ?_
  · refine XS.iadd X8_.here hx rfl (hC e24_82.2.1) rfl ?_
    refine XS.istoreN X8_.here hx rfl (hC e24_82.2.2.1) rfl (l' := ll12) rfl ?_
    refine XS.goto X8_.here hx rfl (pc0 := 87) (pc' := 4) rfl (hC e24_82.2.2.2) (by decide) (by decide) ?_
    refine XS.iloadN X8_.here hx rfl (hC e24_4.1) rfl ?_
    refine XS.ifNo X8_.here hx rfl (hC e24_4.2.1) rfl ((if0 _ _).trans (flt ((fun q => by rw [Int32.lt_iff_toInt_lt, ez0] at q; omega) : ¬ (v1 < (0 : Int32)))).1) ?_
    refine XS.iloadN X8_.here hx rfl (hC e24_4.2.2.1) rfl ?_
    refine XS.aloadN X8_.here hx rfl (hC e24_4.2.2.2) rfl rfl ?_
    exact kK
  refine jv X8_ hx hZ (y := jy1) hown (jk hw 87 rfl) (jk hw 88 rfl) (jk hw 90 rfl) (jk hw 89 rfl) (jk hw 91 rfl) (jk hw 11 rfl) (rm_slen lL Z a0 hw [] a t (2 : Int32) f cs h0 n0 (Nat.le_trans Z0 K0.1) Oo Scs ncs E Fv Fc Tt) E p8__0 own_pd12 [] [(.int (2 : Int32))] (hC e24_10.1) rfl rfl (by rw [hml]; rfl) (by decide) 1 (Nat.le_of_eq rfl) (by decide) (by decide) (by decide : 0 + 0 ≤ _) (by decide : 0 + 0 ≤ _) fun vv9_ T9_ L9_ X9_ hQ9_ => ?_
  obtain ⟨rfl, N9_q, p9__0⟩ := hQ9_
  have N9_ := Fr.app N8_ N9_q
  refine jg T9_ mM 91 ll12 [(.int v1)] (fun tT kK => ?_) ?_
  · refine XS.icmpYes X9_.here hx rfl (pc0 := 13) (pc' := 90) rfl (hC e24_10.2.1) rfl (flt ((by decide) : ¬ ((2 : Int32) < (2 : Int32)))).2.1 (by decide) (by decide) ?_
    refine XS.iloadN X9_.here hx rfl (hC e24_10.2.2.1) rfl ?_
    exact kK
  exact own_rr X9_ hx hlk hre rfl (Or.inl ⟨rfl, Or.inl rfl, _, rfl⟩) (hC e24_10.2.2.2) p9__0 (by decide) (by decide) ⟨v1, rfl, N9_, rfl, by omega⟩
theorem d22_0 : jD34 0 (.invokestatic 62, 3) := by decide +kernel
theorem own_pd18 : parseMethodDescriptor "()Ljava/util/Optional;" = some ⟨[], some (.object "java/util/Optional")⟩ := by decide +kernel
theorem e22_3 : jD34 3 (.astore_n 1, 1) ∧ jD34 4 (.aload_n 0, 1) ∧ jD34 5 (.invokestatic 47, 3) := by decide +kernel
theorem own_pd19 : parseMethodDescriptor "(Ljava/lang/String;)I" = some ⟨[(.object "java/lang/String")], some .int⟩ := by decide +kernel
theorem e22_8 : jD34 8 (.istore_n 2, 1) ∧ jD34 9 (.aload_n 0, 1) ∧ jD34 10 (.bipush 9, 2) ∧ jD34 12 (.invokevirtual 66, 3) := by decide +kernel
theorem e22_15 : jD34 15 (.ifCond .ge 12, 3) ∧ jD34 18 (.aload_n 0, 1) ∧ jD34 19 (.bipush 10, 2) ∧ jD34 21 (.invokevirtual 66, 3) := by decide +kernel
theorem e22_24 : jD34 24 (.ifCond .lt 12, 3) ∧ jD34 36 (.iload_n 2, 1) ∧ jD34 37 (.ifCond .ge 12, 3) ∧ jD34 49 (.iload_n 2, 1) := by decide +kernel
theorem e22_50 : jD34 50 (.ldc 78, 2) ∧ jD34 52 (.if_icmp .le 9, 3) ∧ jD34 61 (.aload_n 1, 1) ∧ jD34 62 (.areturn, 1) := by decide +kernel
theorem own_ef_rm_pp0 (mM : MethodId) (x0 : Addr) : entryFrame mM #[(.ref x0)] 3 = mkF mM 0 #[.val (.ref x0), .unset, .unset] [] := by first | (simp [entryFrame, mkF, argsToLocals, Value.category]; done) | rfl
def Q_rm_pp0 (Z : State) (a : Addr) (t : Addr) (em : Addr) (f : Int32 → Int32) (cs : Int32) (fv : Value) (h0 : Heap) (n0 : Nat) (vV : Option Value) (hH : Heap) (lA : List Loc) : Prop := vV = some (.ref em) ∧ Fr n0 lA ∧ (hH = h0)
set_option maxRecDepth 65536 in
set_option maxHeartbeats 40000000 in
theorem rm_pp0 (lL : Launch) (Z : State) (a0 : Array Value) (hw : own_H a0 Z) (ws : List Jvm.Cond) (a : Addr) (t : Addr) (em : Addr) (f : Int32 → Int32) (cs : Int32) (fv : Value) (h0 : Heap) (n0 : Nat) (Z0 : n0 ≤ h0.size) (Oo : Old Z n0 h0) (Scs : Sta Z Z.heap "java/lang/String" "COMPACT_STRINGS" "Z" (.int cs)) (ncs : ¬ (cs = (0 : Int32))) (Sfv : Sta Z Z.heap "jdk/internal/util/Preconditions" "SIOOBE_FORMATTER" "Ljava/util/function/BiFunction;" fv) (rfv : fv.isRef = true) (Se : Sta Z Z.heap "java/util/Optional" "EMPTY" "Ljava/util/Optional;" (.ref em)) (E : jE0 Z h0 a) (Fv : jF1 Z h0 a (.ref t)) (Fc : jF0 Z h0 a (.int (0 : Int32))) (Tt : own_T Z h0 t .byte (0 : Int32) f) (h9 : own_fd f ((9 : Int32).toInt8.toInt32) (0 : Int32).toNatClampNeg 0 < (0 : Int32)) (h10 : own_fd f ((10 : Int32).toInt8.toInt32) (0 : Int32).toNatClampNeg 0 < (0 : Int32)) :
    own_Met lL jy34 (Jvm.Cond.code jy34 prog_14_method_6_code 3 (some (.object "java/util/Optional")) :: ws) jr19 #[(.ref a)] Z h0 (Q_rm_pp0 Z a t em f cs fv h0 n0) := by
  refine own_begin (plainFor_of_name own_pn_com_example_waldrapp_waldrapp_Intent) (fun mM => own_ef_rm_pp0 mM a) fun pP eE sS mM below meth cC s₁ hx hby hml hZ hown hnm hre hlk X0 e0 => ?_
  have hC := @Jvm.hb _ _ hby
  have N0 := Fr.nil n0
  have K0 := Keep.refl h0 ([] : List Addr)
  refine jc X0 hx hZ (y := jy29) hown (jk hw 101 rfl) (jk hw 102 rfl) (jk hw 103 rfl) (jk hw 104 rfl) (rm_oe lL Z a0 hw [] em h0 n0 (Nat.le_trans Z0 K0.1) Oo Se) e0 own_pd18 [] [] (hC d22_0) rfl rfl (by rw [hml]; rfl) (by decide) 0 (Nat.le_of_eq rfl) (by decide) (by decide) (by decide : 0 + 0 ≤ _) (by decide : 0 + 0 ≤ _) fun vv1_ T1_ L1_ X1_ hQ1_ => ?_
  obtain ⟨rfl, N1_q, p1__0⟩ := hQ1_
  have N1_ := Fr.app N0 N1_q
  refine jg T1_ mM 5 #[vR a, vR em, vU] [(.ref a)] (fun tT kK => ?_) ?_
  · refine XS.astoreN X1_.here hx rfl (hC e22_3.1) rfl rfl (l' := #[vR a, vR em, vU]) rfl ?_
    refine XS.aloadN X1_.here hx rfl (hC e22_3.2.1) rfl rfl ?_
    exact kK
  refine jc X1_ hx hZ (y := jy33) hown (jk hw 106 rfl) (jk hw 107 rfl) (jk hw 2 rfl) (jk hw 108 rfl) (rm_ul0 lL Z a0 hw [] a t f cs fv h0 n0 (Nat.le_trans Z0 K0.1) Oo Scs ncs Sfv rfv E Fv Fc Tt) p1__0 own_pd19 [(.ref a)] [] (hC e22_3.2.2) rfl rfl (by rw [hml]; rfl) (by decide) 0 (Nat.le_of_eq rfl) (by decide) (by decide) (by decide : 0 + 0 ≤ _) (by decide : 0 + 0 ≤ _) fun vv2_ T2_ L2_ X2_ hQ2_ => ?_
  obtain ⟨v'_2_, rfl, N2_q, p2__0, p2__1⟩ := hQ2_
  have N2_ := Fr.app N1_ N2_q
  have ez0 : (0 : Int32).toInt = 0 := rfl
  have ez6 : (65536 : Int32).toInt = 65536 := rfl
  let ll1 : Array Slot := #[vR a, vR em, vI v'_2_]
  refine jg T2_ mM 12 ll1 [(.int (9 : Int32)), (.ref a)] (fun tT kK => ?_) ?_
  · refine XS.istoreN X2_.here hx rfl (hC e22_8.1) rfl (l' := ll1) rfl ?_
    refine XS.aloadN X2_.here hx rfl (hC e22_8.2.1) rfl rfl ?_
    refine XS.bipush X2_.here hx rfl (hC e22_8.2.2.1) ?_
    exact kK
  refine jv X2_ hx hZ (y := jy18) hown (jk hw 109 rfl) (jk hw 110 rfl) (jk hw 112 rfl) (jk hw 111 rfl) (jk hw 113 rfl) (jk hw 11 rfl) (rm_ix lL Z a0 hw [] a (9 : Int32) t (0 : Int32) f cs h0 n0 (Nat.le_trans Z0 K0.1) Oo Scs ncs E Fv Fc Tt (by decide) (by decide)) E p2__0 own_pd16 [(.int (9 : Int32))] [] (hC e22_8.2.2.2) rfl rfl (by rw [hml]; rfl) (by decide) 0 (Nat.le_of_eq rfl) (by decide) (by decide) (by decide : 0 + 0 ≤ _) (by decide : 0 + 0 ≤ _) fun vv3_ T3_ L3_ X3_ hQ3_ => ?_
  obtain ⟨rfl, N3_q, p3__0⟩ := hQ3_
  have N3_ := Fr.app N2_ N3_q
  refine jg T3_ mM 21 ll1 [(.int (10 : Int32)), (.ref a)] (fun tT kK => ?_) ?_
  · refine XS.ifNo X3_.here hx rfl (hC e22_15.1) rfl ((if0 _ _).trans (tlt (h9 : (own_fd f ((9 : Int32).toInt8.toInt32) (0 : Int32).toNatClampNeg 0) < (0 : Int32))).2.1) ?_
    refine XS.aloadN X3_.here hx rfl (hC e22_15.2.1) rfl rfl ?_
    refine XS.bipush X3_.here hx rfl (hC e22_15.2.2.1) ?_
    exact kK
  refine jv X3_ hx hZ (y := jy18) hown (jk hw 109 rfl) (jk hw 110 rfl) (jk hw 112 rfl) (jk hw 111 rfl) (jk hw 113 rfl) (jk hw 11 rfl) (rm_ix lL Z a0 hw [] a (10 : Int32) t (0 : Int32) f cs h0 n0 (Nat.le_trans Z0 K0.1) Oo Scs ncs E Fv Fc Tt (by decide) (by decide)) E p3__0 own_pd16 [(.int (10 : Int32))] [] (hC e22_15.2.2.2) rfl rfl (by rw [hml]; rfl) (by decide) 0 (Nat.le_of_eq rfl) (by decide) (by decide) (by decide : 0 + 0 ≤ _) (by decide : 0 + 0 ≤ _) fun vv4_ T4_ L4_ X4_ hQ4_ => ?_
  obtain ⟨rfl, N4_q, p4__0⟩ := hQ4_
  have N4_ := Fr.app N3_ N4_q
  refine jg T4_ mM 62 ll1 [(.ref em)] (fun tT kK => ?_) ?_
  · refine XS.ifYes X4_.here hx rfl (pc0 := 24) (pc' := 36) rfl (hC e22_24.1) rfl ((if0 _ _).trans (tlt (h10 : (own_fd f ((10 : Int32).toInt8.toInt32) (0 : Int32).toNatClampNeg 0) < (0 : Int32))).1) (by decide) (by decide) ?_
    refine XS.iloadN X4_.here hx rfl (hC e22_24.2.1) rfl ?_
    refine XS.ifYes X4_.here hx rfl (pc0 := 37) (pc' := 49) rfl (hC e22_24.2.2.1) rfl ((if0 _ _).trans (flt ((fun q => by rw [Int32.lt_iff_toInt_lt, ez0] at q; have := p2__1; omega) : ¬ (v'_2_ < (0 : Int32)))).2.1) (by decide) (by decide) ?_
    refine XS.iloadN X4_.here hx rfl (hC e22_24.2.2.2) rfl ?_
    refine X4_.ldcInt hx hown (jm hZ hw 133 rfl) (g := (mkF mM 50 ll1 [(.int v'_2_)])) rfl (hC e22_50.1) _ ?_
    refine XS.icmpYes X4_.here hx rfl (pc0 := 52) (pc' := 61) rfl (hC e22_50.2.1) rfl (flt ((fun q => by rw [Int32.lt_iff_toInt_lt, ez6] at q; have := p2__1; omega) : ¬ ((65536 : Int32) < v'_2_))).2.2.2 (by decide) (by decide) ?_
    refine XS.aloadN X4_.here hx rfl (hC e22_50.2.2.1) rfl rfl ?_
    exact kK
  exact own_rr X4_ hx hlk hre rfl (Or.inr (Or.inr (Or.inr (Or.inr ⟨rfl, rfl, rfl⟩)))) (hC e22_50.2.2.2) p4__0 (by decide) (by decide) ⟨rfl, N4_, rfl⟩
theorem own_ef_rm_pp1 (mM : MethodId) (x0 : Addr) : entryFrame mM #[(.ref x0)] 3 = mkF mM 0 #[.val (.ref x0), .unset, .unset] [] := by first | (simp [entryFrame, mkF, argsToLocals, Value.category]; done) | rfl
def Q_rm_pp1 (Z : State) (a : Addr) (t : Addr) (em : Addr) (f : Int32 → Int32) (cs : Int32) (fv : Value) (h0 : Heap) (n0 : Nat) (vV : Option Value) (hH : Heap) (lA : List Loc) : Prop := vV = some (.ref em) ∧ Fr n0 lA ∧ (hH = h0)
set_option maxRecDepth 65536 in
set_option maxHeartbeats 40000000 in
theorem rm_pp1 (lL : Launch) (Z : State) (a0 : Array Value) (hw : own_H a0 Z) (ws : List Jvm.Cond) (a : Addr) (t : Addr) (em : Addr) (f : Int32 → Int32) (cs : Int32) (fv : Value) (h0 : Heap) (n0 : Nat) (Z0 : n0 ≤ h0.size) (Oo : Old Z n0 h0) (Scs : Sta Z Z.heap "java/lang/String" "COMPACT_STRINGS" "Z" (.int cs)) (ncs : ¬ (cs = (0 : Int32))) (Sfv : Sta Z Z.heap "jdk/internal/util/Preconditions" "SIOOBE_FORMATTER" "Ljava/util/function/BiFunction;" fv) (rfv : fv.isRef = true) (Se : Sta Z Z.heap "java/util/Optional" "EMPTY" "Ljava/util/Optional;" (.ref em)) (E : jE0 Z h0 a) (Fv : jF1 Z h0 a (.ref t)) (Fc : jF0 Z h0 a (.int (0 : Int32))) (Tt : own_T Z h0 t .byte (1 : Int32) f) (h9 : own_fd f ((9 : Int32).toInt8.toInt32) (1 : Int32).toNatClampNeg 0 < (0 : Int32)) (h10 : own_fd f ((10 : Int32).toInt8.toInt32) (1 : Int32).toNatClampNeg 0 < (0 : Int32)) :
    own_Met lL jy34 (Jvm.Cond.code jy34 prog_14_method_6_code 3 (some (.object "java/util/Optional")) :: ws) jr19 #[(.ref a)] Z h0 (Q_rm_pp1 Z a t em f cs fv h0 n0) := by
  refine own_begin (plainFor_of_name own_pn_com_example_waldrapp_waldrapp_Intent) (fun mM => own_ef_rm_pp1 mM a) fun pP eE sS mM below meth cC s₁ hx hby hml hZ hown hnm hre hlk X0 e0 => ?_
  have hC := @Jvm.hb _ _ hby
  have N0 := Fr.nil n0
  have K0 := Keep.refl h0 ([] : List Addr)
  refine jc X0 hx hZ (y := jy29) hown (jk hw 101 rfl) (jk hw 102 rfl) (jk hw 103 rfl) (jk hw 104 rfl) (rm_oe lL Z a0 hw [] em h0 n0 (Nat.le_trans Z0 K0.1) Oo Se) e0 own_pd18 [] [] (hC d22_0) rfl rfl (by rw [hml]; rfl) (by decide) 0 (Nat.le_of_eq rfl) (by decide) (by decide) (by decide : 0 + 0 ≤ _) (by decide : 0 + 0 ≤ _) fun vv1_ T1_ L1_ X1_ hQ1_ => ?_
  obtain ⟨rfl, N1_q, p1__0⟩ := hQ1_
  have N1_ := Fr.app N0 N1_q
  refine jg T1_ mM 5 #[vR a, vR em, vU] [(.ref a)] (fun tT kK => ?_) ?_
  · refine XS.astoreN X1_.here hx rfl (hC e22_3.1) rfl rfl (l' := #[vR a, vR em, vU]) rfl ?_
    refine XS.aloadN X1_.here hx rfl (hC e22_3.2.1) rfl rfl ?_
    exact kK
  refine jc X1_ hx hZ (y := jy33) hown (jk hw 106 rfl) (jk hw 107 rfl) (jk hw 2 rfl) (jk hw 108 rfl) (rm_ul1 lL Z a0 hw [] a t f cs fv h0 n0 (Nat.le_trans Z0 K0.1) Oo Scs ncs Sfv rfv E Fv Fc Tt) p1__0 own_pd19 [(.ref a)] [] (hC e22_3.2.2) rfl rfl (by rw [hml]; rfl) (by decide) 0 (Nat.le_of_eq rfl) (by decide) (by decide) (by decide : 0 + 0 ≤ _) (by decide : 0 + 0 ≤ _) fun vv2_ T2_ L2_ X2_ hQ2_ => ?_
  obtain ⟨v'_2_, rfl, N2_q, p2__0, p2__1⟩ := hQ2_
  have N2_ := Fr.app N1_ N2_q
  have ez0 : (0 : Int32).toInt = 0 := rfl
  have ez6 : (65536 : Int32).toInt = 65536 := rfl
  let ll1 : Array Slot := #[vR a, vR em, vI v'_2_]
  refine jg T2_ mM 12 ll1 [(.int (9 : Int32)), (.ref a)] (fun tT kK => ?_) ?_
  · refine XS.istoreN X2_.here hx rfl (hC e22_8.1) rfl (l' := ll1) rfl ?_
    refine XS.aloadN X2_.here hx rfl (hC e22_8.2.1) rfl rfl ?_
    refine XS.bipush X2_.here hx rfl (hC e22_8.2.2.1) ?_
    exact kK
  refine jv X2_ hx hZ (y := jy18) hown (jk hw 109 rfl) (jk hw 110 rfl) (jk hw 112 rfl) (jk hw 111 rfl) (jk hw 113 rfl) (jk hw 11 rfl) (rm_ix lL Z a0 hw [] a (9 : Int32) t (1 : Int32) f cs h0 n0 (Nat.le_trans Z0 K0.1) Oo Scs ncs E Fv Fc Tt (by decide) (by decide)) E p2__0 own_pd16 [(.int (9 : Int32))] [] (hC e22_8.2.2.2) rfl rfl (by rw [hml]; rfl) (by decide) 0 (Nat.le_of_eq rfl) (by decide) (by decide) (by decide : 0 + 0 ≤ _) (by decide : 0 + 0 ≤ _) fun vv3_ T3_ L3_ X3_ hQ3_ => ?_
  obtain ⟨rfl, N3_q, p3__0⟩ := hQ3_
  have N3_ := Fr.app N2_ N3_q
  refine jg T3_ mM 21 ll1 [(.int (10 : Int32)), (.ref a)] (fun tT kK => ?_) ?_
  · refine XS.ifNo X3_.here hx rfl (hC e22_15.1) rfl ((if0 _ _).trans (tlt (h9 : (own_fd f ((9 : Int32).toInt8.toInt32) (1 : Int32).toNatClampNeg 0) < (0 : Int32))).2.1) ?_
    refine XS.aloadN X3_.here hx rfl (hC e22_15.2.1) rfl rfl ?_
    refine XS.bipush X3_.here hx rfl (hC e22_15.2.2.1) ?_
    exact kK
  refine jv X3_ hx hZ (y := jy18) hown (jk hw 109 rfl) (jk hw 110 rfl) (jk hw 112 rfl) (jk hw 111 rfl) (jk hw 113 rfl) (jk hw 11 rfl) (rm_ix lL Z a0 hw [] a (10 : Int32) t (1 : Int32) f cs h0 n0 (Nat.le_trans Z0 K0.1) Oo Scs ncs E Fv Fc Tt (by decide) (by decide)) E p3__0 own_pd16 [(.int (10 : Int32))] [] (hC e22_15.2.2.2) rfl rfl (by rw [hml]; rfl) (by decide) 0 (Nat.le_of_eq rfl) (by decide) (by decide) (by decide : 0 + 0 ≤ _) (by decide : 0 + 0 ≤ _) fun vv4_ T4_ L4_ X4_ hQ4_ => ?_
  obtain ⟨rfl, N4_q, p4__0⟩ := hQ4_
  have N4_ := Fr.app N3_ N4_q
  refine jg T4_ mM 62 ll1 [(.ref em)] (fun tT kK => ?_) ?_
  · refine XS.ifYes X4_.here hx rfl (pc0 := 24) (pc' := 36) rfl (hC e22_24.1) rfl ((if0 _ _).trans (tlt (h10 : (own_fd f ((10 : Int32).toInt8.toInt32) (1 : Int32).toNatClampNeg 0) < (0 : Int32))).1) (by decide) (by decide) ?_
    refine XS.iloadN X4_.here hx rfl (hC e22_24.2.1) rfl ?_
    refine XS.ifYes X4_.here hx rfl (pc0 := 37) (pc' := 49) rfl (hC e22_24.2.2.1) rfl ((if0 _ _).trans (flt ((fun q => by rw [Int32.lt_iff_toInt_lt, ez0] at q; have := p2__1; omega) : ¬ (v'_2_ < (0 : Int32)))).2.1) (by decide) (by decide) ?_
    refine XS.iloadN X4_.here hx rfl (hC e22_24.2.2.2) rfl ?_
    refine X4_.ldcInt hx hown (jm hZ hw 133 rfl) (g := (mkF mM 50 ll1 [(.int v'_2_)])) rfl (hC e22_50.1) _ ?_
    refine XS.icmpYes X4_.here hx rfl (pc0 := 52) (pc' := 61) rfl (hC e22_50.2.1) rfl (flt ((fun q => by rw [Int32.lt_iff_toInt_lt, ez6] at q; have := p2__1; omega) : ¬ ((65536 : Int32) < v'_2_))).2.2.2 (by decide) (by decide) ?_
    refine XS.aloadN X4_.here hx rfl (hC e22_50.2.2.1) rfl rfl ?_
    exact kK
  exact own_rr X4_ hx hlk hre rfl (Or.inr (Or.inr (Or.inr (Or.inr ⟨rfl, rfl, rfl⟩)))) (hC e22_50.2.2.2) p4__0 (by decide) (by decide) ⟨rfl, N4_, rfl⟩
theorem own_ef_rm_pp2 (mM : MethodId) (x0 : Addr) : entryFrame mM #[(.ref x0)] 3 = mkF mM 0 #[.val (.ref x0), .unset, .unset] [] := by first | (simp [entryFrame, mkF, argsToLocals, Value.category]; done) | rfl
def Q_rm_pp2 (Z : State) (a : Addr) (t : Addr) (em : Addr) (f : Int32 → Int32) (cs : Int32) (fv : Value) (h0 : Heap) (n0 : Nat) (vV : Option Value) (hH : Heap) (lA : List Loc) : Prop := vV = some (.ref em) ∧ Fr n0 lA ∧ (hH = h0)
set_option maxRecDepth 65536 in
set_option maxHeartbeats 40000000 in
theorem rm_pp2 (lL : Launch) (Z : State) (a0 : Array Value) (hw : own_H a0 Z) (ws : List Jvm.Cond) (a : Addr) (t : Addr) (em : Addr) (f : Int32 → Int32) (cs : Int32) (fv : Value) (h0 : Heap) (n0 : Nat) (Z0 : n0 ≤ h0.size) (Oo : Old Z n0 h0) (Scs : Sta Z Z.heap "java/lang/String" "COMPACT_STRINGS" "Z" (.int cs)) (ncs : ¬ (cs = (0 : Int32))) (Sfv : Sta Z Z.heap "jdk/internal/util/Preconditions" "SIOOBE_FORMATTER" "Ljava/util/function/BiFunction;" fv) (rfv : fv.isRef = true) (Se : Sta Z Z.heap "java/util/Optional" "EMPTY" "Ljava/util/Optional;" (.ref em)) (E : jE0 Z h0 a) (Fv : jF1 Z h0 a (.ref t)) (Fc : jF0 Z h0 a (.int (0 : Int32))) (Tt : own_T Z h0 t .byte (2 : Int32) f) (h9 : own_fd f ((9 : Int32).toInt8.toInt32) (2 : Int32).toNatClampNeg 0 < (0 : Int32)) (h10 : own_fd f ((10 : Int32).toInt8.toInt32) (2 : Int32).toNatClampNeg 0 < (0 : Int32)) :
    own_Met lL jy34 (Jvm.Cond.code jy34 prog_14_method_6_code 3 (some (.object "java/util/Optional")) :: ws) jr19 #[(.ref a)] Z h0 (Q_rm_pp2 Z a t em f cs fv h0 n0) := by
  refine own_begin (plainFor_of_name own_pn_com_example_waldrapp_waldrapp_Intent) (fun mM => own_ef_rm_pp2 mM a) fun pP eE sS mM below meth cC s₁ hx hby hml hZ hown hnm hre hlk X0 e0 => ?_
  have hC := @Jvm.hb _ _ hby
  have N0 := Fr.nil n0
  have K0 := Keep.refl h0 ([] : List Addr)
  refine jc X0 hx hZ (y := jy29) hown (jk hw 101 rfl) (jk hw 102 rfl) (jk hw 103 rfl) (jk hw 104 rfl) (rm_oe lL Z a0 hw [] em h0 n0 (Nat.le_trans Z0 K0.1) Oo Se) e0 own_pd18 [] [] (hC d22_0) rfl rfl (by rw [hml]; rfl) (by decide) 0 (Nat.le_of_eq rfl) (by decide) (by decide) (by decide : 0 + 0 ≤ _) (by decide : 0 + 0 ≤ _) fun vv1_ T1_ L1_ X1_ hQ1_ => ?_
  obtain ⟨rfl, N1_q, p1__0⟩ := hQ1_
  have N1_ := Fr.app N0 N1_q
  refine jg T1_ mM 5 #[vR a, vR em, vU] [(.ref a)] (fun tT kK => ?_) ?_
  · refine XS.astoreN X1_.here hx rfl (hC e22_3.1) rfl rfl (l' := #[vR a, vR em, vU]) rfl ?_
    refine XS.aloadN X1_.here hx rfl (hC e22_3.2.1) rfl rfl ?_
    exact kK
  refine jc X1_ hx hZ (y := jy33) hown (jk hw 106 rfl) (jk hw 107 rfl) (jk hw 2 rfl) (jk hw 108 rfl) (rm_ul2 lL Z a0 hw [] a t f cs fv h0 n0 (Nat.le_trans Z0 K0.1) Oo Scs ncs Sfv rfv E Fv Fc Tt) p1__0 own_pd19 [(.ref a)] [] (hC e22_3.2.2) rfl rfl (by rw [hml]; rfl) (by decide) 0 (Nat.le_of_eq rfl) (by decide) (by decide) (by decide : 0 + 0 ≤ _) (by decide : 0 + 0 ≤ _) fun vv2_ T2_ L2_ X2_ hQ2_ => ?_
  obtain ⟨v'_2_, rfl, N2_q, p2__0, p2__1⟩ := hQ2_
  have N2_ := Fr.app N1_ N2_q
  have ez0 : (0 : Int32).toInt = 0 := rfl
  have ez6 : (65536 : Int32).toInt = 65536 := rfl
  let ll1 : Array Slot := #[vR a, vR em, vI v'_2_]
  refine jg T2_ mM 12 ll1 [(.int (9 : Int32)), (.ref a)] (fun tT kK => ?_) ?_
  · refine XS.istoreN X2_.here hx rfl (hC e22_8.1) rfl (l' := ll1) rfl ?_
    refine XS.aloadN X2_.here hx rfl (hC e22_8.2.1) rfl rfl ?_
    refine XS.bipush X2_.here hx rfl (hC e22_8.2.2.1) ?_
    exact kK
  refine jv X2_ hx hZ (y := jy18) hown (jk hw 109 rfl) (jk hw 110 rfl) (jk hw 112 rfl) (jk hw 111 rfl) (jk hw 113 rfl) (jk hw 11 rfl) (rm_ix lL Z a0 hw [] a (9 : Int32) t (2 : Int32) f cs h0 n0 (Nat.le_trans Z0 K0.1) Oo Scs ncs E Fv Fc Tt (by decide) (by decide)) E p2__0 own_pd16 [(.int (9 : Int32))] [] (hC e22_8.2.2.2) rfl rfl (by rw [hml]; rfl) (by decide) 0 (Nat.le_of_eq rfl) (by decide) (by decide) (by decide : 0 + 0 ≤ _) (by decide : 0 + 0 ≤ _) fun vv3_ T3_ L3_ X3_ hQ3_ => ?_
  obtain ⟨rfl, N3_q, p3__0⟩ := hQ3_
  have N3_ := Fr.app N2_ N3_q
  refine jg T3_ mM 21 ll1 [(.int (10 : Int32)), (.ref a)] (fun tT kK => ?_) ?_
  · refine XS.ifNo X3_.here hx rfl (hC e22_15.1) rfl ((if0 _ _).trans (tlt (h9 : (own_fd f ((9 : Int32).toInt8.toInt32) (2 : Int32).toNatClampNeg 0) < (0 : Int32))).2.1) ?_
    refine XS.aloadN X3_.here hx rfl (hC e22_15.2.1) rfl rfl ?_
    refine XS.bipush X3_.here hx rfl (hC e22_15.2.2.1) ?_
    exact kK
  refine jv X3_ hx hZ (y := jy18) hown (jk hw 109 rfl) (jk hw 110 rfl) (jk hw 112 rfl) (jk hw 111 rfl) (jk hw 113 rfl) (jk hw 11 rfl) (rm_ix lL Z a0 hw [] a (10 : Int32) t (2 : Int32) f cs h0 n0 (Nat.le_trans Z0 K0.1) Oo Scs ncs E Fv Fc Tt (by decide) (by decide)) E p3__0 own_pd16 [(.int (10 : Int32))] [] (hC e22_15.2.2.2) rfl rfl (by rw [hml]; rfl) (by decide) 0 (Nat.le_of_eq rfl) (by decide) (by decide) (by decide : 0 + 0 ≤ _) (by decide : 0 + 0 ≤ _) fun vv4_ T4_ L4_ X4_ hQ4_ => ?_
  obtain ⟨rfl, N4_q, p4__0⟩ := hQ4_
  have N4_ := Fr.app N3_ N4_q
  refine jg T4_ mM 62 ll1 [(.ref em)] (fun tT kK => ?_) ?_
  · refine XS.ifYes X4_.here hx rfl (pc0 := 24) (pc' := 36) rfl (hC e22_24.1) rfl ((if0 _ _).trans (tlt (h10 : (own_fd f ((10 : Int32).toInt8.toInt32) (2 : Int32).toNatClampNeg 0) < (0 : Int32))).1) (by decide) (by decide) ?_
    refine XS.iloadN X4_.here hx rfl (hC e22_24.2.1) rfl ?_
    refine XS.ifYes X4_.here hx rfl (pc0 := 37) (pc' := 49) rfl (hC e22_24.2.2.1) rfl ((if0 _ _).trans (flt ((fun q => by rw [Int32.lt_iff_toInt_lt, ez0] at q; have := p2__1; omega) : ¬ (v'_2_ < (0 : Int32)))).2.1) (by decide) (by decide) ?_
    refine XS.iloadN X4_.here hx rfl (hC e22_24.2.2.2) rfl ?_
    refine X4_.ldcInt hx hown (jm hZ hw 133 rfl) (g := (mkF mM 50 ll1 [(.int v'_2_)])) rfl (hC e22_50.1) _ ?_
    refine XS.icmpYes X4_.here hx rfl (pc0 := 52) (pc' := 61) rfl (hC e22_50.2.1) rfl (flt ((fun q => by rw [Int32.lt_iff_toInt_lt, ez6] at q; have := p2__1; omega) : ¬ ((65536 : Int32) < v'_2_))).2.2.2 (by decide) (by decide) ?_
    refine XS.aloadN X4_.here hx rfl (hC e22_50.2.2.1) rfl rfl ?_
    exact kK
  exact own_rr X4_ hx hlk hre rfl (Or.inr (Or.inr (Or.inr (Or.inr ⟨rfl, rfl, rfl⟩)))) (hC e22_50.2.2.2) p4__0 (by decide) (by decide) ⟨rfl, N4_, rfl⟩
theorem e17_0 : jD35 0 (.aload_n 0, 1) ∧ jD35 1 (.invokespecial 1, 3) ∧ jD35 4 (.aload_n 1, 1) ∧ jD35 5 (.invokestatic 7, 3) := by decide +kernel
theorem own_pd20 : parseMethodDescriptor "(Ljava/lang/String;)Z" = some ⟨[(.object "java/lang/String")], some .boolean⟩ := by decide +kernel
theorem e17_8 : jD35 8 (.ifCond .ne 13, 3) ∧ jD35 21 (.aload_n 2, 1) ∧ jD35 22 (.invokestatic 20, 3) := by decide +kernel
theorem own_pd21 : parseMethodDescriptor "(Ljava/lang/String;)Ljava/util/Optional;" = some ⟨[(.object "java/lang/String")], some (.object "java/util/Optional")⟩ := by decide +kernel
theorem e17_25 : jD35 25 (.astore_n 3, 1) ∧ jD35 26 (.aload_n 3, 1) ∧ jD35 27 (.invokevirtual 24, 3) ∧ jD35 30 (.ifCond .eq 18, 3) := by decide +kernel
theorem e17_48 : jD35 48 (.aload_n 0, 1) ∧ jD35 49 (.aload_n 1, 1) ∧ jD35 50 (.putfield 36, 3) := by decide +kernel
theorem js1 {Z : State} {a0 : Array Value} (hw : own_H a0 Z) : jQ2 Z ≠ jQ3 Z := slot_ne (Or.inr (jk hw 144 rfl)) (Or.inr (jk hw 142 rfl)) (by decide) (t := (.object "java/lang/String")) (t' := (.object "java/lang/String")) (by decide) (by decide)
theorem js2 {Z : State} {a0 : Array Value} (hw : own_H a0 Z) : jQ4 Z ≠ jQ3 Z := slot_ne (Or.inr (jk hw 146 rfl)) (Or.inr (jk hw 142 rfl)) (by decide) (t := .int) (t' := (.object "java/lang/String")) (by decide) (by decide)
theorem e17_53 : jD35 53 (.aload_n 0, 1) ∧ jD35 54 (.aload_n 2, 1) ∧ jD35 55 (.putfield 40, 3) := by decide +kernel
theorem js3 {Z : State} {a0 : Array Value} (hw : own_H a0 Z) : jQ4 Z ≠ jQ2 Z := slot_ne (Or.inr (jk hw 146 rfl)) (Or.inr (jk hw 144 rfl)) (by decide) (t := .int) (t' := (.object "java/lang/String")) (by decide) (by decide)
theorem e17_58 : jD35 58 (.aload_n 0, 1) ∧ jD35 59 (.aload_n 1, 1) ∧ jD35 60 (.invokevirtual 43, 3) ∧ jD35 63 (.aload_n 2, 1) := by decide +kernel
theorem e17_64 : jD35 64 (.invokestatic 47, 3) ∧ jD35 67 (.iadd, 1) ∧ jD35 68 (.putfield 51, 3) ∧ jD35 71 (.return_, 1) := by decide +kernel
theorem own_ef_rm_in (mM : MethodId) (x0 : Addr) (x1 : Addr) (x2 : Addr) : entryFrame mM #[(.ref x0), (.ref x1), (.ref x2)] 4 = mkF mM 0 #[.val (.ref x0), .val (.ref x1), .val (.ref x2), .unset] [] := by first | (simp [entryFrame, mkF, argsToLocals, Value.category]; done) | rfl
def Q_rm_in (Z : State) (o : Addr) (a : Addr) (t : Addr) (b : Addr) (t2 : Addr) (em : Addr) (z1 : Int32) (z2 : Int32) (g : Int32 → Int32) (f : Int32 → Int32) (cs : Int32) (fv : Value) (h0 : Heap) (n0 : Nat) (vV : Option Value) (hH : Heap) (lA : List Loc) : Prop := ∃ v' : Int32, vV = none ∧ Fr n0 lA ∧ (Keep h0 hH [o]) ∧ (jE1 Z hH o) ∧ (jF3 Z hH o (.ref a)) ∧ (jF4 Z hH o (.ref b)) ∧ (jF5 Z hH o (.int v'))
set_option maxRecDepth 65536 in
set_option maxHeartbeats 40000000 in
theorem rm_in (lL : Launch) (Z : State) (a0 : Array Value) (hw : own_H a0 Z) (ws : List Jvm.Cond) (o : Addr) (a : Addr) (t : Addr) (b : Addr) (t2 : Addr) (em : Addr) (z1 : Int32) (z2 : Int32) (g : Int32 → Int32) (f : Int32 → Int32) (cs : Int32) (fv : Value) (h0 : Heap) (n0 : Nat) (Z0 : n0 ≤ h0.size) (Oo : Old Z n0 h0) (Scs : Sta Z Z.heap "java/lang/String" "COMPACT_STRINGS" "Z" (.int cs)) (ncs : ¬ (cs = (0 : Int32))) (Sfv : Sta Z Z.heap "jdk/internal/util/Preconditions" "SIOOBE_FORMATTER" "Ljava/util/function/BiFunction;" fv) (rfv : fv.isRef = true) (Se : Sta Z Z.heap "java/util/Optional" "EMPTY" "Ljava/util/Optional;" (.ref em)) (Fem : jF2 Z h0 em .null) (Eem : jE2 Z h0 em) (I0 : jE1 Z h0 o) (I1 : jF3 Z h0 o .null) (I2 : jF4 Z h0 o .null) (I3 : jF5 Z h0 o (.int (0 : Int32))) (E1 : jE0 Z h0 a) (Fv1 : jF1 Z h0 a (.ref t)) (Fc1 : jF0 Z h0 a (.int (0 : Int32))) (Tt1 : own_T Z h0 t .byte z1 g) (E2 : jE0 Z h0 b) (Fv2 : jF1 Z h0 b (.ref t2)) (Fc2 : jF0 Z h0 b (.int (0 : Int32))) (Tt2 : own_T Z h0 t2 .byte z2 f) (go : n0 ≤ o) (hA : z1 = (1 : Int32) ∨ z1 = (2 : Int32)) (hB : z2 = (0 : Int32) ∨ z2 = (1 : Int32) ∨ z2 = (2 : Int32)) (ok0 : own_okc (own_ch (g (0 : Int32))) = (1 : Int32)) (ok1 : z1 = (2 : Int32) → own_okc (own_ch (g (1 : Int32))) = (1 : Int32)) (h9 : own_fd f ((9 : Int32).toInt8.toInt32) z2.toNatClampNeg 0 < (0 : Int32)) (h10 : own_fd f ((10 : Int32).toInt8.toInt32) z2.toNatClampNeg 0 < (0 : Int32)) :
    own_Met lL jy35 (Jvm.Cond.code jy35 prog_14_method_1_code 4 none :: ws) jr20 #[(.ref o), (.ref a), (.ref b)] Z h0 (Q_rm_in Z o a t b t2 em z1 z2 g f cs fv h0 n0) := by
  refine own_begin (plainFor_of_name own_pn_com_example_waldrapp_waldrapp_Intent) (fun mM => own_ef_rm_in mM o a b) fun pP eE sS mM below meth cC s₁ hx hby hml hZ hown hnm hre hlk X0 e0 => ?_
  have hC := @Jvm.hb _ _ hby
  have N0 := Fr.nil n0
  have K0 := Keep.refl h0 [o]
  rcases hA with rfl | rfl
  · rcases hB with rfl | rfl | rfl
    · let ll1 : Array Slot := #[vR o, vR a, vR b, vU]
      refine jg s₁ mM 1 ll1 [(.ref o)] (fun tT kK => ?_) ?_
      · refine XS.aloadN X0.here hx rfl (hC e17_0.1) rfl rfl ?_
        exact kK
      obtain ⟨T1_, X1_, e1_, st1_⟩ := initO X0 hx hZ hown (jk hw 78 rfl) (jk hw 56 rfl) (jk hw 57 rfl) e0 (g := (mkF mM 1 ll1 [(.ref o)])) rfl (by rw [hml]; rfl) rfl (hC e17_0.2.1) (by decide) (W := 0) (by show 2 * 0 + _ ≤ _; exact Nat.le_of_eq rfl) (by decide)
      refine own_fin st1_ ?_
      refine jg T1_ mM 5 ll1 [(.ref a)] (fun tT kK => ?_) ?_
      · refine XS.aloadN X1_.here hx rfl (hC e17_0.2.2.1) rfl rfl ?_
        exact kK
      refine jc X1_ hx hZ (y := jy28) hown (jk hw 79 rfl) (jk hw 80 rfl) (jk hw 2 rfl) (jk hw 81 rfl) (rm_isid1 lL Z a0 hw [] a t g cs fv h0 n0 (Nat.le_trans Z0 K0.1) Oo Scs ncs Sfv rfv E1 Fv1 Fc1 Tt1 ok0) e1_ own_pd20 [(.ref a)] [] (hC e17_0.2.2.2) rfl rfl (by rw [hml]; rfl) (by decide) 0 (Nat.le_of_eq rfl) (by decide) (by decide) (by decide : 0 + 0 ≤ _) (by decide : 0 + 0 ≤ _) fun vv2_ T2_ L2_ X2_ hQ2_ => ?_
      obtain ⟨rfl, N2_q, p2__0⟩ := hQ2_
      have N2_ := Fr.app N0 N2_q
      refine jg T2_ mM 22 ll1 [(.ref b)] (fun tT kK => ?_) ?_
      · refine XS.ifYes X2_.here hx rfl (pc0 := 8) (pc' := 21) rfl (hC e17_8.1) rfl ((if0 _ _).trans (feq ((by decide) : ¬ ((1 : Int32) = (0 : Int32)))).2) (by decide) (by decide) ?_
        refine XS.aloadN X2_.here hx rfl (hC e17_8.2.1) rfl rfl ?_
        exact kK
      refine jc X2_ hx hZ (y := jy34) hown (jk hw 98 rfl) (jk hw 99 rfl) (jk hw 2 rfl) (jk hw 100 rfl) (rm_pp0 lL Z a0 hw [] b t2 em f cs fv h0 n0 (Nat.le_trans Z0 K0.1) Oo Scs ncs Sfv rfv Se E2 Fv2 Fc2 Tt2 h9 h10) p2__0 own_pd21 [(.ref b)] [] (hC e17_8.2.2) rfl rfl (by rw [hml]; rfl) (by decide) 0 (Nat.le_of_eq rfl) (by decide) (by decide) (by decide : 0 + 0 ≤ _) (by decide : 0 + 0 ≤ _) fun vv3_ T3_ L3_ X3_ hQ3_ => ?_
      obtain ⟨rfl, N3_q, p3__0⟩ := hQ3_
      have N3_ := Fr.app N2_ N3_q
      let ll2 : Array Slot := #[vR o, vR a, vR b, vR em]
      refine jg T3_ mM 27 ll2 [(.ref em)] (fun tT kK => ?_) ?_
      · refine XS.astoreN X3_.here hx rfl (hC e17_25.1) rfl rfl (l' := ll2) rfl ?_
        refine XS.aloadN X3_.here hx rfl (hC e17_25.2.1) rfl rfl ?_
        exact kK
      refine jv X3_ hx hZ (y := jy30) hown (jk hw 134 rfl) (jk hw 135 rfl) (jk hw 137 rfl) (jk hw 136 rfl) (jk hw 138 rfl) (jk hw 103 rfl) (rm_ip lL Z a0 hw [] em h0 n0 (Nat.le_trans Z0 K0.1) Fem) Eem p3__0 own_pd3 [] [] (hC e17_25.2.2.1) rfl rfl (by rw [hml]; rfl) (by decide) 0 (Nat.le_of_eq rfl) (by decide) (by decide) (by decide : 0 + 0 ≤ _) (by decide : 0 + 0 ≤ _) fun vv4_ T4_ L4_ X4_ hQ4_ => ?_
      obtain ⟨rfl, N4_q, p4__0⟩ := hQ4_
      have N4_ := Fr.app N3_ N4_q
      refine jg T4_ mM 50 ll2 [(.ref a), (.ref o)] (fun tT kK => ?_) ?_
      · refine XS.ifYes X4_.here hx rfl (pc0 := 30) (pc' := 48) rfl (hC e17_25.2.2.2) rfl ((if0 _ _).trans (teq ((by decide) : (0 : Int32) = (0 : Int32))).1) (by decide) (by decide) ?_
        refine XS.aloadN X4_.here hx rfl (hC e17_48.1) rfl rfl ?_
        refine XS.aloadN X4_.here hx rfl (hC e17_48.2.1) rfl rfl ?_
        exact kK
      obtain ⟨T5_, h5_, X5_, e5_, W5_, st5_⟩ := putF X4_ hx hZ hown (host := "") (Or.inl (jk hw 141 rfl)) Via.refl p4__0 I1 I0 (Or.inr ⟨(jk hw 142 rfl), rfl, hnm⟩) (jk hw 1 rfl) (ty := (.object "java/lang/String")) (by decide) rfl rfl (g := (mkF mM 50 ll2 [(.ref a), (.ref o)])) rfl rfl (hC e17_48.2.2)
      have Fw5_ := I1.same W5_
      have ne7_ : a ≠ o := (Exa.ne E1 I0 (by decide))
      have ne8_ : t ≠ o := (Ne.symm (own_neT I0 Tt1 (jk hw 1 rfl)))
      have ne9_ : b ≠ o := (Exa.ne E2 I0 (by decide))
      have ne10_ : t2 ≠ o := (Ne.symm (own_neT I0 Tt2 (jk hw 1 rfl)))
      have fc11_ := Oo.wr W5_ go
      have fc14_ := I0.wr W5_
      have fc15_ := I2.other W5_ (Or.inr (js1 hw))
      have fc16_ := I3.other W5_ (Or.inr (js2 hw))
      have fc17_ := E1.wr W5_
      have fc18_ := Fv1.other W5_ (Or.inl ne7_)
      have fc19_ := Fc1.other W5_ (Or.inl ne7_)
      have fc20_ := Tt1.other W5_ ne8_
      have fc21_ := E2.wr W5_
      have fc22_ := Fv2.other W5_ (Or.inl ne9_)
      have fc23_ := Fc2.other W5_ (Or.inl ne9_)
      have fc24_ := Tt2.other W5_ ne10_
      have K5_ := K0.wr W5_ (Or.inl (List.mem_of_getElem? (i := 0) rfl))
      have N5_ := Fr.snoc X5_ N4_ go
      refine own_fin st5_ ?_
      refine jg T5_ mM 55 ll2 [(.ref b), (.ref o)] (fun tT kK => ?_) ?_
      · refine XS.aloadN X5_.here hx rfl (hC e17_53.1) rfl rfl ?_
        refine XS.aloadN X5_.here hx rfl (hC e17_53.2.1) rfl rfl ?_
        exact kK
      obtain ⟨T25_, h25_, X25_, e25_, W25_, st25_⟩ := putF X5_ hx hZ hown (host := "") (Or.inl (jk hw 143 rfl)) Via.refl e5_ fc15_ fc14_ (Or.inr ⟨(jk hw 144 rfl), rfl, hnm⟩) (jk hw 1 rfl) (ty := (.object "java/lang/String")) (by decide) rfl rfl (g := (mkF mM 55 ll2 [(.ref b), (.ref o)])) rfl rfl (hC e17_53.2.2)
      have Fw25_ := fc15_.same W25_
      have fc26_ := fc11_.wr W25_ go
      have fc29_ := fc14_.wr W25_
      have fc30_ := Fw5_.other W25_ (Or.inr (js1 hw).symm)
      have fc31_ := fc16_.other W25_ (Or.inr (js3 hw))
      have fc32_ := fc17_.wr W25_
      have fc33_ := fc18_.other W25_ (Or.inl ne7_)
      have fc34_ := fc19_.other W25_ (Or.inl ne7_)
      have fc35_ := fc20_.other W25_ ne8_
      have fc36_ := fc21_.wr W25_
      have fc37_ := fc22_.other W25_ (Or.inl ne9_)
      have fc38_ := fc23_.other W25_ (Or.inl ne9_)
      have fc39_ := fc24_.other W25_ ne10_
      have K25_ := K5_.wr W25_ (Or.inl (List.mem_of_getElem? (i := 0) rfl))
      have N25_ := Fr.snoc X25_ N5_ go
      refine own_fin st25_ ?_
      refine jg T25_ mM 60 ll2 [(.ref a), (.ref o)] (fun tT kK => ?_) ?_
      · refine XS.aloadN X25_.here hx rfl (hC e17_58.1) rfl rfl ?_
        refine XS.aloadN X25_.here hx rfl (hC e17_58.2.1) rfl rfl ?_
        exact kK
      refine jv X25_ hx hZ (y := jy1) hown (jk hw 87 rfl) (jk hw 88 rfl) (jk hw 90 rfl) (jk hw 89 rfl) (jk hw 91 rfl) (jk hw 11 rfl) (rm_slen lL Z a0 hw [] a t (1 : Int32) g cs h25_ n0 (Nat.le_trans Z0 K25_.1) fc26_ Scs ncs fc32_ fc33_ fc34_ fc35_) fc32_ e25_ own_pd12 [] [(.ref o)] (hC e17_58.2.2.1) rfl rfl (by rw [hml]; rfl) (by decide) 1 (Nat.le_of_eq rfl) (by decide) (by decide) (by decide : 0 + 0 ≤ _) (by decide : 0 + 0 ≤ _) fun vv40_ T40_ L40_ X40_ hQ40_ => ?_
      obtain ⟨rfl, N40_q, p40__0⟩ := hQ40_
      have N40_ := Fr.app N25_ N40_q
      refine jg T40_ mM 64 ll2 [(.ref b), (.int (1 : Int32)), (.ref o)] (fun tT kK => ?_) ?_
      · refine XS.aloadN X40_.here hx rfl (hC e17_58.2.2.2) rfl rfl ?_
        exact kK
      refine jc X40_ hx hZ (y := jy33) hown (jk hw 106 rfl) (jk hw 107 rfl) (jk hw 2 rfl) (jk hw 108 rfl) (rm_ul0 lL Z a0 hw [] b t2 f cs fv h25_ n0 (Nat.le_trans Z0 K25_.1) fc26_ Scs ncs Sfv rfv fc36_ fc37_ fc38_ fc39_) p40__0 own_pd19 [(.ref b)] [(.int (1 : Int32)), (.ref o)] (hC e17_64.1) rfl rfl (by rw [hml]; rfl) (by decide) 2 (Nat.le_of_eq rfl) (by decide) (by decide) (by decide : 0 + 0 ≤ _) (by decide : 0 + 0 ≤ _) fun vv41_ T41_ L41_ X41_ hQ41_ => ?_
      obtain ⟨v'_41_, rfl, N41_q, p41__0, p41__1⟩ := hQ41_
      have N41_ := Fr.app N40_ N41_q
      refine jg T41_ mM 68 ll2 [(.int ((1 : Int32) + v'_41_)), (.ref o)] (fun tT kK => ?_) ?_
      · refine XS.iadd X41_.here hx rfl (hC e17_64.2.1) rfl ?_
        exact kK
      obtain ⟨T42_, h42_, X42_, e42_, W42_, st42_⟩ := putF X41_ hx hZ hown (host := "") (Or.inl (jk hw 145 rfl)) Via.refl p41__0 fc31_ fc29_ (Or.inr ⟨(jk hw 146 rfl), rfl, hnm⟩) (jk hw 1 rfl) (ty := .int) (by decide) rfl rfl (g := (mkF mM 68 ll2 [(.int ((1 : Int32) + v'_41_)), (.ref o)])) rfl rfl (hC e17_64.2.2.1)
      have Fw42_ := fc31_.same W42_
      have fc46_ := fc29_.wr W42_
      have fc47_ := fc30_.other W42_ (Or.inr (js2 hw).symm)
      have fc48_ := Fw25_.other W42_ (Or.inr (js3 hw).symm)
      have K42_ := K25_.wr W42_ (Or.inl (List.mem_of_getElem? (i := 0) rfl))
      have N42_ := Fr.snoc X42_ N41_ go
      refine own_fin st42_ ?_
      exact own_rV X42_ hx hlk hre (hC e17_64.2.2.2) e42_ (by decide) (by decide) ⟨((1 : Int32) + v'_41_), rfl, N42_, K42_, fc46_, fc47_, fc48_, Fw42_⟩
    · let ll3 : Array Slot := #[vR o, vR a, vR b, vU]
      refine jg s₁ mM 1 ll3 [(.ref o)] (fun tT kK => ?_) ?_
      · refine XS.aloadN X0.here hx rfl (hC e17_0.1) rfl rfl ?_
        exact kK
      obtain ⟨T57_, X57_, e57_, st57_⟩ := initO X0 hx hZ hown (jk hw 78 rfl) (jk hw 56 rfl) (jk hw 57 rfl) e0 (g := (mkF mM 1 ll3 [(.ref o)])) rfl (by rw [hml]; rfl) rfl (hC e17_0.2.1) (by decide) (W := 0) (by show 2 * 0 + _ ≤ _; exact Nat.le_of_eq rfl) (by decide)
      refine own_fin st57_ ?_
      refine jg T57_ mM 5 ll3 [(.ref a)] (fun tT kK => ?_) ?_
      · refine XS.aloadN X57_.here hx rfl (hC e17_0.2.2.1) rfl rfl ?_
        exact kK
      refine jc X57_ hx hZ (y := jy28) hown (jk hw 79 rfl) (jk hw 80 rfl) (jk hw 2 rfl) (jk hw 81 rfl) (rm_isid1 lL Z a0 hw [] a t g cs fv h0 n0 (Nat.le_trans Z0 K0.1) Oo Scs ncs Sfv rfv E1 Fv1 Fc1 Tt1 ok0) e57_ own_pd20 [(.ref a)] [] (hC e17_0.2.2.2) rfl rfl (by rw [hml]; rfl) (by decide) 0 (Nat.le_of_eq rfl) (by decide) (by decide) (by decide : 0 + 0 ≤ _) (by decide : 0 + 0 ≤ _) fun vv58_ T58_ L58_ X58_ hQ58_ => ?_
      obtain ⟨rfl, N58_q, p58__0⟩ := hQ58_
      have N58_ := Fr.app N0 N58_q
      refine jg T58_ mM 22 ll3 [(.ref b)] (fun tT kK => ?_) ?_
      · refine XS.ifYes X58_.here hx rfl (pc0 := 8) (pc' := 21) rfl (hC e17_8.1) rfl ((if0 _ _).trans (feq ((by decide) : ¬ ((1 : Int32) = (0 : Int32)))).2) (by decide) (by decide) ?_
        refine XS.aloadN X58_.here hx rfl (hC e17_8.2.1) rfl rfl ?_
        exact kK
      refine jc X58_ hx hZ (y := jy34) hown (jk hw 98 rfl) (jk hw 99 rfl) (jk hw 2 rfl) (jk hw 100 rfl) (rm_pp1 lL Z a0 hw [] b t2 em f cs fv h0 n0 (Nat.le_trans Z0 K0.1) Oo Scs ncs Sfv rfv Se E2 Fv2 Fc2 Tt2 h9 h10) p58__0 own_pd21 [(.ref b)] [] (hC e17_8.2.2) rfl rfl (by rw [hml]; rfl) (by decide) 0 (Nat.le_of_eq rfl) (by decide) (by decide) (by decide : 0 + 0 ≤ _) (by decide : 0 + 0 ≤ _) fun vv59_ T59_ L59_ X59_ hQ59_ => ?_
      obtain ⟨rfl, N59_q, p59__0⟩ := hQ59_
      have N59_ := Fr.app N58_ N59_q
      let ll4 : Array Slot := #[vR o, vR a, vR b, vR em]
      refine jg T59_ mM 27 ll4 [(.ref em)] (fun tT kK => ?_) ?_
      · refine XS.astoreN X59_.here hx rfl (hC e17_25.1) rfl rfl (l' := ll4) rfl ?_
        refine XS.aloadN X59_.here hx rfl (hC e17_25.2.1) rfl rfl ?_
        exact kK
      refine jv X59_ hx hZ (y := jy30) hown (jk hw 134 rfl) (jk hw 135 rfl) (jk hw 137 rfl) (jk hw 136 rfl) (jk hw 138 rfl) (jk hw 103 rfl) (rm_ip lL Z a0 hw [] em h0 n0 (Nat.le_trans Z0 K0.1) Fem) Eem p59__0 own_pd3 [] [] (hC e17_25.2.2.1) rfl rfl (by rw [hml]; rfl) (by decide) 0 (Nat.le_of_eq rfl) (by decide) (by decide) (by decide : 0 + 0 ≤ _) (by decide : 0 + 0 ≤ _) fun vv60_ T60_ L60_ X60_ hQ60_ => ?_
      obtain ⟨rfl, N60_q, p60__0⟩ := hQ60_
      have N60_ := Fr.app N59_ N60_q
      refine jg T60_ mM 50 ll4 [(.ref a), (.ref o)] (fun tT kK => ?_) ?_
      · refine XS.ifYes X60_.here hx rfl (pc0 := 30) (pc' := 48) rfl (hC e17_25.2.2.2) rfl ((if0 _ _).trans (teq ((by decide) : (0 : Int32) = (0 : Int32))).1) (by decide) (by decide) ?_
        refine XS.aloadN X60_.here hx rfl (hC e17_48.1) rfl rfl ?_
        refine XS.aloadN X60_.here hx rfl (hC e17_48.2.1) rfl rfl ?_
        exact kK
      obtain ⟨T61_, h61_, X61_, e61_, W61_, st61_⟩ := putF X60_ hx hZ hown (host := "") (Or.inl (jk hw 141 rfl)) Via.refl p60__0 I1 I0 (Or.inr ⟨(jk hw 142 rfl), rfl, hnm⟩) (jk hw 1 rfl) (ty := (.object "java/lang/String")) (by decide) rfl rfl (g := (mkF mM 50 ll4 [(.ref a), (.ref o)])) rfl rfl (hC e17_48.2.2)
      have Fw61_ := I1.same W61_
      have ne63_ : a ≠ o := (Exa.ne E1 I0 (by decide))
      have ne64_ : t ≠ o := (Ne.symm (own_neT I0 Tt1 (jk hw 1 rfl)))
      have ne65_ : b ≠ o := (Exa.ne E2 I0 (by decide))
      have ne66_ : t2 ≠ o := (Ne.symm (own_neT I0 Tt2 (jk hw 1 rfl)))
      have fc67_ := Oo.wr W61_ go
      have fc70_ := I0.wr W61_
      have fc71_ := I2.other W61_ (Or.inr (js1 hw))
      have fc72_ := I3.other W61_ (Or.inr (js2 hw))
      have fc73_ := E1.wr W61_
      have fc74_ := Fv1.other W61_ (Or.inl ne63_)
      have fc75_ := Fc1.other W61_ (Or.inl ne63_)
      have fc76_ := Tt1.other W61_ ne64_
      have fc77_ := E2.wr W61_
      have fc78_ := Fv2.other W61_ (Or.inl ne65_)
      have fc79_ := Fc2.other W61_ (Or.inl ne65_)
      have fc80_ := Tt2.other W61_ ne66_
      have K61_ := K0.wr W61_ (Or.inl (List.mem_of_getElem? (i := 0) rfl))
      have N61_ := Fr.snoc X61_ N60_ go
      refine own_fin st61_ ?_
      refine jg T61_ mM 55 ll4 [(.ref b), (.ref o)] (fun tT kK => ?_) ?_
      · refine XS.aloadN X61_.here hx rfl (hC e17_53.1) rfl rfl ?_
        refine XS.aloadN X61_.here hx rfl (hC e17_53.2.1) rfl rfl ?_
        exact kK
      obtain ⟨T81_, h81_, X81_, e81_, W81_, st81_⟩ := putF X61_ hx hZ hown (host := "") (Or.inl (jk hw 143 rfl)) Via.refl e61_ fc71_ fc70_ (Or.inr ⟨(jk hw 144 rfl), rfl, hnm⟩) (jk hw 1 rfl) (ty := (.object "java/lang/String")) (by decide) rfl rfl (g := (mkF mM 55 ll4 [(.ref b), (.ref o)])) rfl rfl (hC e17_53.2.2)
      have Fw81_ := fc71_.same W81_
      have fc82_ := fc67_.wr W81_ go
      have fc85_ := fc70_.wr W81_
      have fc86_ := Fw61_.other W81_ (Or.inr (js1 hw).symm)
      have fc87_ := fc72_.other W81_ (Or.inr (js3 hw))
      have fc88_ := fc73_.wr W81_
      have fc89_ := fc74_.other W81_ (Or.inl ne63_)
      have fc90_ := fc75_.other W81_ (Or.inl ne63_)
      have fc91_ := fc76_.other W81_ ne64_
      have fc92_ := fc77_.wr W81_
      have fc93_ := fc78_.other W81_ (Or.inl ne65_)
      have fc94_ := fc79_.other W81_ (Or.inl ne65_)
      have fc95_ := fc80_.other W81_ ne66_
      have K81_ := K61_.wr W81_ (Or.inl (List.mem_of_getElem? (i := 0) rfl))
      have N81_ := Fr.snoc X81_ N61_ go
      refine own_fin st81_ ?_
      refine jg T81_ mM 60 ll4 [(.ref a), (.ref o)] (fun tT kK => ?_) ?_
      · refine XS.aloadN X81_.here hx rfl (hC e17_58.1) rfl rfl ?_
        refine XS.aloadN X81_.here hx rfl (hC e17_58.2.1) rfl rfl ?_
        exact kK
      refine jv X81_ hx hZ (y := jy1) hown (jk hw 87 rfl) (jk hw 88 rfl) (jk hw 90 rfl) (jk hw 89 rfl) (jk hw 91 rfl) (jk hw 11 rfl) (rm_slen lL Z a0 hw [] a t (1 : Int32) g cs h81_ n0 (Nat.le_trans Z0 K81_.1) fc82_ Scs ncs fc88_ fc89_ fc90_ fc91_) fc88_ e81_ own_pd12 [] [(.ref o)] (hC e17_58.2.2.1) rfl rfl (by rw [hml]; rfl) (by decide) 1 (Nat.le_of_eq rfl) (by decide) (by decide) (by decide : 0 + 0 ≤ _) (by decide : 0 + 0 ≤ _) fun vv96_ T96_ L96_ X96_ hQ96_ => ?_
      obtain ⟨rfl, N96_q, p96__0⟩ := hQ96_
      have N96_ := Fr.app N81_ N96_q
      refine jg T96_ mM 64 ll4 [(.ref b), (.int (1 : Int32)), (.ref o)] (fun tT kK => ?_) ?_
      · refine XS.aloadN X96_.here hx rfl (hC e17_58.2.2.2) rfl rfl ?_
        exact kK
      refine jc X96_ hx hZ (y := jy33) hown (jk hw 106 rfl) (jk hw 107 rfl) (jk hw 2 rfl) (jk hw 108 rfl) (rm_ul1 lL Z a0 hw [] b t2 f cs fv h81_ n0 (Nat.le_trans Z0 K81_.1) fc82_ Scs ncs Sfv rfv fc92_ fc93_ fc94_ fc95_) p96__0 own_pd19 [(.ref b)] [(.int (1 : Int32)), (.ref o)] (hC e17_64.1) rfl rfl (by rw [hml]; rfl) (by decide) 2 (Nat.le_of_eq rfl) (by decide) (by decide) (by decide : 0 + 0 ≤ _) (by decide : 0 + 0 ≤ _) fun vv97_ T97_ L97_ X97_ hQ97_ => ?_
      obtain ⟨v'_97_, rfl, N97_q, p97__0, p97__1⟩ := hQ97_
      have N97_ := Fr.app N96_ N97_q
      refine jg T97_ mM 68 ll4 [(.int ((1 : Int32) + v'_97_)), (.ref o)] (fun tT kK => ?_) ?_
      · refine XS.iadd X97_.here hx rfl (hC e17_64.2.1) rfl ?_
        exact kK
      obtain ⟨T98_, h98_, X98_, e98_, W98_, st98_⟩ := putF X97_ hx hZ hown (host := "") (Or.inl (jk hw 145 rfl)) Via.refl p97__0 fc87_ fc85_ (Or.inr ⟨(jk hw 146 rfl), rfl, hnm⟩) (jk hw 1 rfl) (ty := .int) (by decide) rfl rfl (g := (mkF mM 68 ll4 [(.int ((1 : Int32) + v'_97_)), (.ref o)])) rfl rfl (hC e17_64.2.2.1)
      have Fw98_ := fc87_.same W98_
      have fc102_ := fc85_.wr W98_
      have fc103_ := fc86_.other W98_ (Or.inr (js2 hw).symm)
      have fc104_ := Fw81_.other W98_ (Or.inr (js3 hw).symm)
      have K98_ := K81_.wr W98_ (Or.inl (List.mem_of_getElem? (i := 0) rfl))
      have N98_ := Fr.snoc X98_ N97_ go
      refine own_fin st98_ ?_
      exact own_rV X98_ hx hlk hre (hC e17_64.2.2.2) e98_ (by decide) (by decide) ⟨((1 : Int32) + v'_97_), rfl, N98_, K98_, fc102_, fc103_, fc104_, Fw98_⟩
    · let ll5 : Array Slot := #[vR o, vR a, vR b, vU]
      refine jg s₁ mM 1 ll5 [(.ref o)] (fun tT kK => ?_) ?_
      · refine XS.aloadN X0.here hx rfl (hC e17_0.1) rfl rfl ?_
        exact kK
      obtain ⟨T113_, X113_, e113_, st113_⟩ := initO X0 hx hZ hown (jk hw 78 rfl) (jk hw 56 rfl) (jk hw 57 rfl) e0 (g := (mkF mM 1 ll5 [(.ref o)])) rfl (by rw [hml]; rfl) rfl (hC e17_0.2.1) (by decide) (W := 0) (by show 2 * 0 + _ ≤ _; exact Nat.le_of_eq rfl) (by decide)
      refine own_fin st113_ ?_
      refine jg T113_ mM 5 ll5 [(.ref a)] (fun tT kK => ?_) ?_
      · refine XS.aloadN X113_.here hx rfl (hC e17_0.2.2.1) rfl rfl ?_
        exact kK
      refine jc X113_ hx hZ (y := jy28) hown (jk hw 79 rfl) (jk hw 80 rfl) (jk hw 2 rfl) (jk hw 81 rfl) (rm_isid1 lL Z a0 hw [] a t g cs fv h0 n0 (Nat.le_trans Z0 K0.1) Oo Scs ncs Sfv rfv E1 Fv1 Fc1 Tt1 ok0) e113_ own_pd20 [(.ref a)] [] (hC e17_0.2.2.2) rfl rfl (by rw [hml]; rfl) (by decide) 0 (Nat.le_of_eq rfl) (by decide) (by decide) (by decide : 0 + 0 ≤ _) (by decide : 0 + 0 ≤ _) fun vv114_ T114_ L114_ X114_ hQ114_ => ?_
      obtain ⟨rfl, N114_q, p114__0⟩ := hQ114_
      have N114_ := Fr.app N0 N114_q
      refine jg T114_ mM 22 ll5 [(.ref b)] (fun tT kK => ?_) ?_
      · refine XS.ifYes X114_.here hx rfl (pc0 := 8) (pc' := 21) rfl (hC e17_8.1) rfl ((if0 _ _).trans (feq ((by decide) : ¬ ((1 : Int32) = (0 : Int32)))).2) (by decide) (by decide) ?_
        refine XS.aloadN X114_.here hx rfl (hC e17_8.2.1) rfl rfl ?_
        exact kK
      refine jc X114_ hx hZ (y := jy34) hown (jk hw 98 rfl) (jk hw 99 rfl) (jk hw 2 rfl) (jk hw 100 rfl) (rm_pp2 lL Z a0 hw [] b t2 em f cs fv h0 n0 (Nat.le_trans Z0 K0.1) Oo Scs ncs Sfv rfv Se E2 Fv2 Fc2 Tt2 h9 h10) p114__0 own_pd21 [(.ref b)] [] (hC e17_8.2.2) rfl rfl (by rw [hml]; rfl) (by decide) 0 (Nat.le_of_eq rfl) (by decide) (by decide) (by decide : 0 + 0 ≤ _) (by decide : 0 + 0 ≤ _) fun vv115_ T115_ L115_ X115_ hQ115_ => ?_
      obtain ⟨rfl, N115_q, p115__0⟩ := hQ115_
      have N115_ := Fr.app N114_ N115_q
      let ll6 : Array Slot := #[vR o, vR a, vR b, vR em]
      refine jg T115_ mM 27 ll6 [(.ref em)] (fun tT kK => ?_) ?_
      · refine XS.astoreN X115_.here hx rfl (hC e17_25.1) rfl rfl (l' := ll6) rfl ?_
        refine XS.aloadN X115_.here hx rfl (hC e17_25.2.1) rfl rfl ?_
        exact kK
      refine jv X115_ hx hZ (y := jy30) hown (jk hw 134 rfl) (jk hw 135 rfl) (jk hw 137 rfl) (jk hw 136 rfl) (jk hw 138 rfl) (jk hw 103 rfl) (rm_ip lL Z a0 hw [] em h0 n0 (Nat.le_trans Z0 K0.1) Fem) Eem p115__0 own_pd3 [] [] (hC e17_25.2.2.1) rfl rfl (by rw [hml]; rfl) (by decide) 0 (Nat.le_of_eq rfl) (by decide) (by decide) (by decide : 0 + 0 ≤ _) (by decide : 0 + 0 ≤ _) fun vv116_ T116_ L116_ X116_ hQ116_ => ?_
      obtain ⟨rfl, N116_q, p116__0⟩ := hQ116_
      have N116_ := Fr.app N115_ N116_q
      refine jg T116_ mM 50 ll6 [(.ref a), (.ref o)] (fun tT kK => ?_) ?_
      · refine XS.ifYes X116_.here hx rfl (pc0 := 30) (pc' := 48) rfl (hC e17_25.2.2.2) rfl ((if0 _ _).trans (teq ((by decide) : (0 : Int32) = (0 : Int32))).1) (by decide) (by decide) ?_
        refine XS.aloadN X116_.here hx rfl (hC e17_48.1) rfl rfl ?_
        refine XS.aloadN X116_.here hx rfl (hC e17_48.2.1) rfl rfl ?_
        exact kK
      obtain ⟨T117_, h117_, X117_, e117_, W117_, st117_⟩ := putF X116_ hx hZ hown (host := "") (Or.inl (jk hw 141 rfl)) Via.refl p116__0 I1 I0 (Or.inr ⟨(jk hw 142 rfl), rfl, hnm⟩) (jk hw 1 rfl) (ty := (.object "java/lang/String")) (by decide) rfl rfl (g := (mkF mM 50 ll6 [(.ref a), (.ref o)])) rfl rfl (hC e17_48.2.2)
      have Fw117_ := I1.same W117_
      have ne119_ : a ≠ o := (Exa.ne E1 I0 (by decide))
      have ne120_ : t ≠ o := (Ne.symm (own_neT I0 Tt1 (jk hw 1 rfl)))
      have ne121_ : b ≠ o := (Exa.ne E2 I0 (by decide))
      have ne122_ : t2 ≠ o := (Ne.symm (own_neT I0 Tt2 (jk hw 1 rfl)))
      have fc123_ := Oo.wr W117_ go
      have fc126_ := I0.wr W117_
      have fc127_ := I2.other W117_ (Or.inr (js1 hw))
      have fc128_ := I3.other W117_ (Or.inr (js2 hw))
      have fc129_ := E1.wr W117_
      have fc130_ := Fv1.other W117_ (Or.inl ne119_)
      have fc131_ := Fc1.other W117_ (Or.inl ne119_)
      have fc132_ := Tt1.other W117_ ne120_
      have fc133_ := E2.wr W117_
      have fc134_ := Fv2.other W117_ (Or.inl ne121_)
      have fc135_ := Fc2.other W117_ (Or.inl ne121_)
      have fc136_ := Tt2.other W117_ ne122_
      have K117_ := K0.wr W117_ (Or.inl (List.mem_of_getElem? (i := 0) rfl))
      have N117_ := Fr.snoc X117_ N116_ go
      refine own_fin st117_ ?_
      refine jg T117_ mM 55 ll6 [(.ref b), (.ref o)] (fun tT kK => ?_) ?_
      · refine XS.aloadN X117_.here hx rfl (hC e17_53.1) rfl rfl ?_
        refine XS.aloadN X117_.here hx rfl (hC e17_53.2.1) rfl rfl ?_
        exact kK
      obtain ⟨T137_, h137_, X137_, e137_, W137_, st137_⟩ := putF X117_ hx hZ hown (host := "") (Or.inl (jk hw 143 rfl)) Via.refl e117_ fc127_ fc126_ (Or.inr ⟨(jk hw 144 rfl), rfl, hnm⟩) (jk hw 1 rfl) (ty := (.object "java/lang/String")) (by decide) rfl rfl (g := (mkF mM 55 ll6 [(.ref b), (.ref o)])) rfl rfl (hC e17_53.2.2)
      have Fw137_ := fc127_.same W137_
      have fc138_ := fc123_.wr W137_ go
      have fc141_ := fc126_.wr W137_
      have fc142_ := Fw117_.other W137_ (Or.inr (js1 hw).symm)
      have fc143_ := fc128_.other W137_ (Or.inr (js3 hw))
      have fc144_ := fc129_.wr W137_
      have fc145_ := fc130_.other W137_ (Or.inl ne119_)
      have fc146_ := fc131_.other W137_ (Or.inl ne119_)
      have fc147_ := fc132_.other W137_ ne120_
      have fc148_ := fc133_.wr W137_
      have fc149_ := fc134_.other W137_ (Or.inl ne121_)
      have fc150_ := fc135_.other W137_ (Or.inl ne121_)
      have fc151_ := fc136_.other W137_ ne122_
      have K137_ := K117_.wr W137_ (Or.inl (List.mem_of_getElem? (i := 0) rfl))
      have N137_ := Fr.snoc X137_ N117_ go
      refine own_fin st137_ ?_
      refine jg T137_ mM 60 ll6 [(.ref a), (.ref o)] (fun tT kK => ?_) ?_
      · refine XS.aloadN X137_.here hx rfl (hC e17_58.1) rfl rfl ?_
        refine XS.aloadN X137_.here hx rfl (hC e17_58.2.1) rfl rfl ?_
        exact kK
      refine jv X137_ hx hZ (y := jy1) hown (jk hw 87 rfl) (jk hw 88 rfl) (jk hw 90 rfl) (jk hw 89 rfl) (jk hw 91 rfl) (jk hw 11 rfl) (rm_slen lL Z a0 hw [] a t (1 : Int32) g cs h137_ n0 (Nat.le_trans Z0 K137_.1) fc138_ Scs ncs fc144_ fc145_ fc146_ fc147_) fc144_ e137_ own_pd12 [] [(.ref o)] (hC e17_58.2.2.1) rfl rfl (by rw [hml]; rfl) (by decide) 1 (Nat.le_of_eq rfl) (by decide) (by decide) (by decide : 0 + 0 ≤ _) (by decide : 0 + 0 ≤ _) fun vv152_ T152_ L152_ X152_ hQ152_ => ?_
      obtain ⟨rfl, N152_q, p152__0⟩ := hQ152_
      have N152_ := Fr.app N137_ N152_q
      refine jg T152_ mM 64 ll6 [(.ref b), (.int (1 : Int32)), (.ref o)] (fun tT kK => ?_) ?_
      · refine XS.aloadN X152_.here hx rfl (hC e17_58.2.2.2) rfl rfl ?_
        exact kK
      refine jc X152_ hx hZ (y := jy33) hown (jk hw 106 rfl) (jk hw 107 rfl) (jk hw 2 rfl) (jk hw 108 rfl) (rm_ul2 lL Z a0 hw [] b t2 f cs fv h137_ n0 (Nat.le_trans Z0 K137_.1) fc138_ Scs ncs Sfv rfv fc148_ fc149_ fc150_ fc151_) p152__0 own_pd19 [(.ref b)] [(.int (1 : Int32)), (.ref o)] (hC e17_64.1) rfl rfl (by rw [hml]; rfl) (by decide) 2 (Nat.le_of_eq rfl) (by decide) (by decide) (by decide : 0 + 0 ≤ _) (by decide : 0 + 0 ≤ _) fun vv153_ T153_ L153_ X153_ hQ153_ => ?_
      obtain ⟨v'_153_, rfl, N153_q, p153__0, p153__1⟩ := hQ153_
      have N153_ := Fr.app N152_ N153_q
      refine jg T153_ mM 68 ll6 [(.int ((1 : Int32) + v'_153_)), (.ref o)] (fun tT kK => ?_) ?_
      · refine XS.iadd X153_.here hx rfl (hC e17_64.2.1) rfl ?_
        exact kK
      obtain ⟨T154_, h154_, X154_, e154_, W154_, st154_⟩ := putF X153_ hx hZ hown (host := "") (Or.inl (jk hw 145 rfl)) Via.refl p153__0 fc143_ fc141_ (Or.inr ⟨(jk hw 146 rfl), rfl, hnm⟩) (jk hw 1 rfl) (ty := .int) (by decide) rfl rfl (g := (mkF mM 68 ll6 [(.int ((1 : Int32) + v'_153_)), (.ref o)])) rfl rfl (hC e17_64.2.2.1)
      have Fw154_ := fc143_.same W154_
      have fc158_ := fc141_.wr W154_
      have fc159_ := fc142_.other W154_ (Or.inr (js2 hw).symm)
      have fc160_ := Fw137_.other W154_ (Or.inr (js3 hw).symm)
      have K154_ := K137_.wr W154_ (Or.inl (List.mem_of_getElem? (i := 0) rfl))
      have N154_ := Fr.snoc X154_ N153_ go
      refine own_fin st154_ ?_
      exact own_rV X154_ hx hlk hre (hC e17_64.2.2.2) e154_ (by decide) (by decide) ⟨((1 : Int32) + v'_153_), rfl, N154_, K154_, fc158_, fc159_, fc160_, Fw154_⟩
  · rcases hB with rfl | rfl | rfl
    · let ll7 : Array Slot := #[vR o, vR a, vR b, vU]
      refine jg s₁ mM 1 ll7 [(.ref o)] (fun tT kK => ?_) ?_
      · refine XS.aloadN X0.here hx rfl (hC e17_0.1) rfl rfl ?_
        exact kK
      obtain ⟨T169_, X169_, e169_, st169_⟩ := initO X0 hx hZ hown (jk hw 78 rfl) (jk hw 56 rfl) (jk hw 57 rfl) e0 (g := (mkF mM 1 ll7 [(.ref o)])) rfl (by rw [hml]; rfl) rfl (hC e17_0.2.1) (by decide) (W := 0) (by show 2 * 0 + _ ≤ _; exact Nat.le_of_eq rfl) (by decide)
      refine own_fin st169_ ?_
      refine jg T169_ mM 5 ll7 [(.ref a)] (fun tT kK => ?_) ?_
      · refine XS.aloadN X169_.here hx rfl (hC e17_0.2.2.1) rfl rfl ?_
        exact kK
      refine jc X169_ hx hZ (y := jy28) hown (jk hw 79 rfl) (jk hw 80 rfl) (jk hw 2 rfl) (jk hw 81 rfl) (rm_isid2 lL Z a0 hw [] a t g cs fv h0 n0 (Nat.le_trans Z0 K0.1) Oo Scs ncs Sfv rfv E1 Fv1 Fc1 Tt1 ok0 (ok1 rfl)) e169_ own_pd20 [(.ref a)] [] (hC e17_0.2.2.2) rfl rfl (by rw [hml]; rfl) (by decide) 0 (Nat.le_of_eq rfl) (by decide) (by decide) (by decide : 0 + 0 ≤ _) (by decide : 0 + 0 ≤ _) fun vv170_ T170_ L170_ X170_ hQ170_ => ?_
      obtain ⟨rfl, N170_q, p170__0⟩ := hQ170_
      have N170_ := Fr.app N0 N170_q
      refine jg T170_ mM 22 ll7 [(.ref b)] (fun tT kK => ?_) ?_
      · refine XS.ifYes X170_.here hx rfl (pc0 := 8) (pc' := 21) rfl (hC e17_8.1) rfl ((if0 _ _).trans (feq ((by decide) : ¬ ((1 : Int32) = (0 : Int32)))).2) (by decide) (by decide) ?_
        refine XS.aloadN X170_.here hx rfl (hC e17_8.2.1) rfl rfl ?_
        exact kK
      refine jc X170_ hx hZ (y := jy34) hown (jk hw 98 rfl) (jk hw 99 rfl) (jk hw 2 rfl) (jk hw 100 rfl) (rm_pp0 lL Z a0 hw [] b t2 em f cs fv h0 n0 (Nat.le_trans Z0 K0.1) Oo Scs ncs Sfv rfv Se E2 Fv2 Fc2 Tt2 h9 h10) p170__0 own_pd21 [(.ref b)] [] (hC e17_8.2.2) rfl rfl (by rw [hml]; rfl) (by decide) 0 (Nat.le_of_eq rfl) (by decide) (by decide) (by decide : 0 + 0 ≤ _) (by decide : 0 + 0 ≤ _) fun vv171_ T171_ L171_ X171_ hQ171_ => ?_
      obtain ⟨rfl, N171_q, p171__0⟩ := hQ171_
      have N171_ := Fr.app N170_ N171_q
      let ll8 : Array Slot := #[vR o, vR a, vR b, vR em]
      refine jg T171_ mM 27 ll8 [(.ref em)] (fun tT kK => ?_) ?_
      · refine XS.astoreN X171_.here hx rfl (hC e17_25.1) rfl rfl (l' := ll8) rfl ?_
        refine XS.aloadN X171_.here hx rfl (hC e17_25.2.1) rfl rfl ?_
        exact kK
      refine jv X171_ hx hZ (y := jy30) hown (jk hw 134 rfl) (jk hw 135 rfl) (jk hw 137 rfl) (jk hw 136 rfl) (jk hw 138 rfl) (jk hw 103 rfl) (rm_ip lL Z a0 hw [] em h0 n0 (Nat.le_trans Z0 K0.1) Fem) Eem p171__0 own_pd3 [] [] (hC e17_25.2.2.1) rfl rfl (by rw [hml]; rfl) (by decide) 0 (Nat.le_of_eq rfl) (by decide) (by decide) (by decide : 0 + 0 ≤ _) (by decide : 0 + 0 ≤ _) fun vv172_ T172_ L172_ X172_ hQ172_ => ?_
      obtain ⟨rfl, N172_q, p172__0⟩ := hQ172_
      have N172_ := Fr.app N171_ N172_q
      refine jg T172_ mM 50 ll8 [(.ref a), (.ref o)] (fun tT kK => ?_) ?_
      · refine XS.ifYes X172_.here hx rfl (pc0 := 30) (pc' := 48) rfl (hC e17_25.2.2.2) rfl ((if0 _ _).trans (teq ((by decide) : (0 : Int32) = (0 : Int32))).1) (by decide) (by decide) ?_
        refine XS.aloadN X172_.here hx rfl (hC e17_48.1) rfl rfl ?_
        refine XS.aloadN X172_.here hx rfl (hC e17_48.2.1) rfl rfl ?_
        exact kK
      obtain ⟨T173_, h173_, X173_, e173_, W173_, st173_⟩ := putF X172_ hx hZ hown (host := "") (Or.inl (jk hw 141 rfl)) Via.refl p172__0 I1 I0 (Or.inr ⟨(jk hw 142 rfl), rfl, hnm⟩) (jk hw 1 rfl) (ty := (.object "java/lang/String")) (by decide) rfl rfl (g := (mkF mM 50 ll8 [(.ref a), (.ref o)])) rfl rfl (hC e17_48.2.2)
      have Fw173_ := I1.same W173_
      have ne175_ : a ≠ o := (Exa.ne E1 I0 (by decide))
      have ne176_ : t ≠ o := (Ne.symm (own_neT I0 Tt1 (jk hw 1 rfl)))
      have ne177_ : b ≠ o := (Exa.ne E2 I0 (by decide))
      have ne178_ : t2 ≠ o := (Ne.symm (own_neT I0 Tt2 (jk hw 1 rfl)))
      have fc179_ := Oo.wr W173_ go
      have fc182_ := I0.wr W173_
      have fc183_ := I2.other W173_ (Or.inr (js1 hw))
      have fc184_ := I3.other W173_ (Or.inr (js2 hw))
      have fc185_ := E1.wr W173_
      have fc186_ := Fv1.other W173_ (Or.inl ne175_)
      have fc187_ := Fc1.other W173_ (Or.inl ne175_)
      have fc188_ := Tt1.other W173_ ne176_
      have fc189_ := E2.wr W173_
      have fc190_ := Fv2.other W173_ (Or.inl ne177_)
      have fc191_ := Fc2.other W173_ (Or.inl ne177_)
      have fc192_ := Tt2.other W173_ ne178_
      have K173_ := K0.wr W173_ (Or.inl (List.mem_of_getElem? (i := 0) rfl))
      have N173_ := Fr.snoc X173_ N172_ go
      refine own_fin st173_ ?_
      refine jg T173_ mM 55 ll8 [(.ref b), (.ref o)] (fun tT kK => ?_) ?_
      · refine XS.aloadN X173_.here hx rfl (hC e17_53.1) rfl rfl ?_
        refine XS.aloadN X173_.here hx rfl (hC e17_53.2.1) rfl rfl ?_
        exact kK
      obtain ⟨T193_, h193_, X193_, e193_, W193_, st193_⟩ := putF X173_ hx hZ hown (host := "") (Or.inl (jk hw 143 rfl)) Via.refl e173_ fc183_ fc182_ (Or.inr ⟨(jk hw 144 rfl), rfl, hnm⟩) (jk hw 1 rfl) (ty := (.object "java/lang/String")) (by decide) rfl rfl (g := (mkF mM 55 ll8 [(.ref b), (.ref o)])) rfl rfl (hC e17_53.2.2)
      have Fw193_ := fc183_.same W193_
      have fc194_ := fc179_.wr W193_ go
      have fc197_ := fc182_.wr W193_
      have fc198_ := Fw173_.other W193_ (Or.inr (js1 hw).symm)
      have fc199_ := fc184_.other W193_ (Or.inr (js3 hw))
      have fc200_ := fc185_.wr W193_
      have fc201_ := fc186_.other W193_ (Or.inl ne175_)
      have fc202_ := fc187_.other W193_ (Or.inl ne175_)
      have fc203_ := fc188_.other W193_ ne176_
      have fc204_ := fc189_.wr W193_
      have fc205_ := fc190_.other W193_ (Or.inl ne177_)
      have fc206_ := fc191_.other W193_ (Or.inl ne177_)
      have fc207_ := fc192_.other W193_ ne178_
      have K193_ := K173_.wr W193_ (Or.inl (List.mem_of_getElem? (i := 0) rfl))
      have N193_ := Fr.snoc X193_ N173_ go
      refine own_fin st193_ ?_
      refine jg T193_ mM 60 ll8 [(.ref a), (.ref o)] (fun tT kK => ?_) ?_
      · refine XS.aloadN X193_.here hx rfl (hC e17_58.1) rfl rfl ?_
        refine XS.aloadN X193_.here hx rfl (hC e17_58.2.1) rfl rfl ?_
        exact kK
      refine jv X193_ hx hZ (y := jy1) hown (jk hw 87 rfl) (jk hw 88 rfl) (jk hw 90 rfl) (jk hw 89 rfl) (jk hw 91 rfl) (jk hw 11 rfl) (rm_slen lL Z a0 hw [] a t (2 : Int32) g cs h193_ n0 (Nat.le_trans Z0 K193_.1) fc194_ Scs ncs fc200_ fc201_ fc202_ fc203_) fc200_ e193_ own_pd12 [] [(.ref o)] (hC e17_58.2.2.1) rfl rfl (by rw [hml]; rfl) (by decide) 1 (Nat.le_of_eq rfl) (by decide) (by decide) (by decide : 0 + 0 ≤ _) (by decide : 0 + 0 ≤ _) fun vv208_ T208_ L208_ X208_ hQ208_ => ?_
      obtain ⟨rfl, N208_q, p208__0⟩ := hQ208_
      have N208_ := Fr.app N193_ N208_q
      refine jg T208_ mM 64 ll8 [(.ref b), (.int (2 : Int32)), (.ref o)] (fun tT kK => ?_) ?_
      · refine XS.aloadN X208_.here hx rfl (hC e17_58.2.2.2) rfl rfl ?_
        exact kK
      refine jc X208_ hx hZ (y := jy33) hown (jk hw 106 rfl) (jk hw 107 rfl) (jk hw 2 rfl) (jk hw 108 rfl) (rm_ul0 lL Z a0 hw [] b t2 f cs fv h193_ n0 (Nat.le_trans Z0 K193_.1) fc194_ Scs ncs Sfv rfv fc204_ fc205_ fc206_ fc207_) p208__0 own_pd19 [(.ref b)] [(.int (2 : Int32)), (.ref o)] (hC e17_64.1) rfl rfl (by rw [hml]; rfl) (by decide) 2 (Nat.le_of_eq rfl) (by decide) (by decide) (by decide : 0 + 0 ≤ _) (by decide : 0 + 0 ≤ _) fun vv209_ T209_ L209_ X209_ hQ209_ => ?_
      obtain ⟨v'_209_, rfl, N209_q, p209__0, p209__1⟩ := hQ209_
      have N209_ := Fr.app N208_ N209_q
      refine jg T209_ mM 68 ll8 [(.int ((2 : Int32) + v'_209_)), (.ref o)] (fun tT kK => ?_) ?_
      · refine XS.iadd X209_.here hx rfl (hC e17_64.2.1) rfl ?_
        exact kK
      obtain ⟨T210_, h210_, X210_, e210_, W210_, st210_⟩ := putF X209_ hx hZ hown (host := "") (Or.inl (jk hw 145 rfl)) Via.refl p209__0 fc199_ fc197_ (Or.inr ⟨(jk hw 146 rfl), rfl, hnm⟩) (jk hw 1 rfl) (ty := .int) (by decide) rfl rfl (g := (mkF mM 68 ll8 [(.int ((2 : Int32) + v'_209_)), (.ref o)])) rfl rfl (hC e17_64.2.2.1)
      have Fw210_ := fc199_.same W210_
      have fc214_ := fc197_.wr W210_
      have fc215_ := fc198_.other W210_ (Or.inr (js2 hw).symm)
      have fc216_ := Fw193_.other W210_ (Or.inr (js3 hw).symm)
      have K210_ := K193_.wr W210_ (Or.inl (List.mem_of_getElem? (i := 0) rfl))
      have N210_ := Fr.snoc X210_ N209_ go
      refine own_fin st210_ ?_
      exact own_rV X210_ hx hlk hre (hC e17_64.2.2.2) e210_ (by decide) (by decide) ⟨((2 : Int32) + v'_209_), rfl, N210_, K210_, fc214_, fc215_, fc216_, Fw210_⟩
    · let ll9 : Array Slot := #[vR o, vR a, vR b, vU]
      refine jg s₁ mM 1 ll9 [(.ref o)] (fun tT kK => ?_) ?_
      · refine XS.aloadN X0.here hx rfl (hC e17_0.1) rfl rfl ?_
        exact kK
      obtain ⟨T225_, X225_, e225_, st225_⟩ := initO X0 hx hZ hown (jk hw 78 rfl) (jk hw 56 rfl) (jk hw 57 rfl) e0 (g := (mkF mM 1 ll9 [(.ref o)])) rfl (by rw [hml]; rfl) rfl (hC e17_0.2.1) (by decide) (W := 0) (by show 2 * 0 + _ ≤ _; exact Nat.le_of_eq rfl) (by decide)
      refine own_fin st225_ ?_
      refine jg T225_ mM 5 ll9 [(.ref a)] (fun tT kK => ?_) ?_
      · refine XS.aloadN X225_.here hx rfl (hC e17_0.2.2.1) rfl rfl ?_
        exact kK
      refine jc X225_ hx hZ (y := jy28) hown (jk hw 79 rfl) (jk hw 80 rfl) (jk hw 2 rfl) (jk hw 81 rfl) (rm_isid2 lL Z a0 hw [] a t g cs fv h0 n0 (Nat.le_trans Z0 K0.1) Oo Scs ncs Sfv rfv E1 Fv1 Fc1 Tt1 ok0 (ok1 rfl)) e225_ own_pd20 [(.ref a)] [] (hC e17_0.2.2.2) rfl rfl (by rw [hml]; rfl) (by decide) 0 (Nat.le_of_eq rfl) (by decide) (by decide) (by decide : 0 + 0 ≤ _) (by decide : 0 + 0 ≤ _) fun vv226_ T226_ L226_ X226_ hQ226_ => ?_
      obtain ⟨rfl, N226_q, p226__0⟩ := hQ226_
      have N226_ := Fr.app N0 N226_q
      refine jg T226_ mM 22 ll9 [(.ref b)] (fun tT kK => ?_) ?_
      · refine XS.ifYes X226_.here hx rfl (pc0 := 8) (pc' := 21) rfl (hC e17_8.1) rfl ((if0 _ _).trans (feq ((by decide) : ¬ ((1 : Int32) = (0 : Int32)))).2) (by decide) (by decide) ?_
        refine XS.aloadN X226_.here hx rfl (hC e17_8.2.1) rfl rfl ?_
        exact kK
      refine jc X226_ hx hZ (y := jy34) hown (jk hw 98 rfl) (jk hw 99 rfl) (jk hw 2 rfl) (jk hw 100 rfl) (rm_pp1 lL Z a0 hw [] b t2 em f cs fv h0 n0 (Nat.le_trans Z0 K0.1) Oo Scs ncs Sfv rfv Se E2 Fv2 Fc2 Tt2 h9 h10) p226__0 own_pd21 [(.ref b)] [] (hC e17_8.2.2) rfl rfl (by rw [hml]; rfl) (by decide) 0 (Nat.le_of_eq rfl) (by decide) (by decide) (by decide : 0 + 0 ≤ _) (by decide : 0 + 0 ≤ _) fun vv227_ T227_ L227_ X227_ hQ227_ => ?_
      obtain ⟨rfl, N227_q, p227__0⟩ := hQ227_
      have N227_ := Fr.app N226_ N227_q
      let ll10 : Array Slot := #[vR o, vR a, vR b, vR em]
      refine jg T227_ mM 27 ll10 [(.ref em)] (fun tT kK => ?_) ?_
      · refine XS.astoreN X227_.here hx rfl (hC e17_25.1) rfl rfl (l' := ll10) rfl ?_
        refine XS.aloadN X227_.here hx rfl (hC e17_25.2.1) rfl rfl ?_
        exact kK
      refine jv X227_ hx hZ (y := jy30) hown (jk hw 134 rfl) (jk hw 135 rfl) (jk hw 137 rfl) (jk hw 136 rfl) (jk hw 138 rfl) (jk hw 103 rfl) (rm_ip lL Z a0 hw [] em h0 n0 (Nat.le_trans Z0 K0.1) Fem) Eem p227__0 own_pd3 [] [] (hC e17_25.2.2.1) rfl rfl (by rw [hml]; rfl) (by decide) 0 (Nat.le_of_eq rfl) (by decide) (by decide) (by decide : 0 + 0 ≤ _) (by decide : 0 + 0 ≤ _) fun vv228_ T228_ L228_ X228_ hQ228_ => ?_
      obtain ⟨rfl, N228_q, p228__0⟩ := hQ228_
      have N228_ := Fr.app N227_ N228_q
      refine jg T228_ mM 50 ll10 [(.ref a), (.ref o)] (fun tT kK => ?_) ?_
      · refine XS.ifYes X228_.here hx rfl (pc0 := 30) (pc' := 48) rfl (hC e17_25.2.2.2) rfl ((if0 _ _).trans (teq ((by decide) : (0 : Int32) = (0 : Int32))).1) (by decide) (by decide) ?_
        refine XS.aloadN X228_.here hx rfl (hC e17_48.1) rfl rfl ?_
        refine XS.aloadN X228_.here hx rfl (hC e17_48.2.1) rfl rfl ?_
        exact kK
      obtain ⟨T229_, h229_, X229_, e229_, W229_, st229_⟩ := putF X228_ hx hZ hown (host := "") (Or.inl (jk hw 141 rfl)) Via.refl p228__0 I1 I0 (Or.inr ⟨(jk hw 142 rfl), rfl, hnm⟩) (jk hw 1 rfl) (ty := (.object "java/lang/String")) (by decide) rfl rfl (g := (mkF mM 50 ll10 [(.ref a), (.ref o)])) rfl rfl (hC e17_48.2.2)
      have Fw229_ := I1.same W229_
      have ne231_ : a ≠ o := (Exa.ne E1 I0 (by decide))
      have ne232_ : t ≠ o := (Ne.symm (own_neT I0 Tt1 (jk hw 1 rfl)))
      have ne233_ : b ≠ o := (Exa.ne E2 I0 (by decide))
      have ne234_ : t2 ≠ o := (Ne.symm (own_neT I0 Tt2 (jk hw 1 rfl)))
      have fc235_ := Oo.wr W229_ go
      have fc238_ := I0.wr W229_
      have fc239_ := I2.other W229_ (Or.inr (js1 hw))
      have fc240_ := I3.other W229_ (Or.inr (js2 hw))
      have fc241_ := E1.wr W229_
      have fc242_ := Fv1.other W229_ (Or.inl ne231_)
      have fc243_ := Fc1.other W229_ (Or.inl ne231_)
      have fc244_ := Tt1.other W229_ ne232_
      have fc245_ := E2.wr W229_
      have fc246_ := Fv2.other W229_ (Or.inl ne233_)
      have fc247_ := Fc2.other W229_ (Or.inl ne233_)
      have fc248_ := Tt2.other W229_ ne234_
      have K229_ := K0.wr W229_ (Or.inl (List.mem_of_getElem? (i := 0) rfl))
      have N229_ := Fr.snoc X229_ N228_ go
      refine own_fin st229_ ?_
      refine jg T229_ mM 55 ll10 [(.ref b), (.ref o)] (fun tT kK => ?_) ?_
      · refine XS.aloadN X229_.here hx rfl (hC e17_53.1) rfl rfl ?_
        refine XS.aloadN X229_.here hx rfl (hC e17_53.2.1) rfl rfl ?_
        exact kK
      obtain ⟨T249_, h249_, X249_, e249_, W249_, st249_⟩ := putF X229_ hx hZ hown (host := "") (Or.inl (jk hw 143 rfl)) Via.refl e229_ fc239_ fc238_ (Or.inr ⟨(jk hw 144 rfl), rfl, hnm⟩) (jk hw 1 rfl) (ty := (.object "java/lang/String")) (by decide) rfl rfl (g := (mkF mM 55 ll10 [(.ref b), (.ref o)])) rfl rfl (hC e17_53.2.2)
      have Fw249_ := fc239_.same W249_
      have fc250_ := fc235_.wr W249_ go
      have fc253_ := fc238_.wr W249_
      have fc254_ := Fw229_.other W249_ (Or.inr (js1 hw).symm)
      have fc255_ := fc240_.other W249_ (Or.inr (js3 hw))
      have fc256_ := fc241_.wr W249_
      have fc257_ := fc242_.other W249_ (Or.inl ne231_)
      have fc258_ := fc243_.other W249_ (Or.inl ne231_)
      have fc259_ := fc244_.other W249_ ne232_
      have fc260_ := fc245_.wr W249_
      have fc261_ := fc246_.other W249_ (Or.inl ne233_)
      have fc262_ := fc247_.other W249_ (Or.inl ne233_)
      have fc263_ := fc248_.other W249_ ne234_
      have K249_ := K229_.wr W249_ (Or.inl (List.mem_of_getElem? (i := 0) rfl))
      have N249_ := Fr.snoc X249_ N229_ go
      refine own_fin st249_ ?_
      refine jg T249_ mM 60 ll10 [(.ref a), (.ref o)] (fun tT kK => ?_) ?_
      · refine XS.aloadN X249_.here hx rfl (hC e17_58.1) rfl rfl ?_
        refine XS.aloadN X249_.here hx rfl (hC e17_58.2.1) rfl rfl ?_
        exact kK
      refine jv X249_ hx hZ (y := jy1) hown (jk hw 87 rfl) (jk hw 88 rfl) (jk hw 90 rfl) (jk hw 89 rfl) (jk hw 91 rfl) (jk hw 11 rfl) (rm_slen lL Z a0 hw [] a t (2 : Int32) g cs h249_ n0 (Nat.le_trans Z0 K249_.1) fc250_ Scs ncs fc256_ fc257_ fc258_ fc259_) fc256_ e249_ own_pd12 [] [(.ref o)] (hC e17_58.2.2.1) rfl rfl (by rw [hml]; rfl) (by decide) 1 (Nat.le_of_eq rfl) (by decide) (by decide) (by decide : 0 + 0 ≤ _) (by decide : 0 + 0 ≤ _) fun vv264_ T264_ L264_ X264_ hQ264_ => ?_
      obtain ⟨rfl, N264_q, p264__0⟩ := hQ264_
      have N264_ := Fr.app N249_ N264_q
      refine jg T264_ mM 64 ll10 [(.ref b), (.int (2 : Int32)), (.ref o)] (fun tT kK => ?_) ?_
      · refine XS.aloadN X264_.here hx rfl (hC e17_58.2.2.2) rfl rfl ?_
        exact kK
      refine jc X264_ hx hZ (y := jy33) hown (jk hw 106 rfl) (jk hw 107 rfl) (jk hw 2 rfl) (jk hw 108 rfl) (rm_ul1 lL Z a0 hw [] b t2 f cs fv h249_ n0 (Nat.le_trans Z0 K249_.1) fc250_ Scs ncs Sfv rfv fc260_ fc261_ fc262_ fc263_) p264__0 own_pd19 [(.ref b)] [(.int (2 : Int32)), (.ref o)] (hC e17_64.1) rfl rfl (by rw [hml]; rfl) (by decide) 2 (Nat.le_of_eq rfl) (by decide) (by decide) (by decide : 0 + 0 ≤ _) (by decide : 0 + 0 ≤ _) fun vv265_ T265_ L265_ X265_ hQ265_ => ?_
      obtain ⟨v'_265_, rfl, N265_q, p265__0, p265__1⟩ := hQ265_
      have N265_ := Fr.app N264_ N265_q
      refine jg T265_ mM 68 ll10 [(.int ((2 : Int32) + v'_265_)), (.ref o)] (fun tT kK => ?_) ?_
      · refine XS.iadd X265_.here hx rfl (hC e17_64.2.1) rfl ?_
        exact kK
      obtain ⟨T266_, h266_, X266_, e266_, W266_, st266_⟩ := putF X265_ hx hZ hown (host := "") (Or.inl (jk hw 145 rfl)) Via.refl p265__0 fc255_ fc253_ (Or.inr ⟨(jk hw 146 rfl), rfl, hnm⟩) (jk hw 1 rfl) (ty := .int) (by decide) rfl rfl (g := (mkF mM 68 ll10 [(.int ((2 : Int32) + v'_265_)), (.ref o)])) rfl rfl (hC e17_64.2.2.1)
      have Fw266_ := fc255_.same W266_
      have fc270_ := fc253_.wr W266_
      have fc271_ := fc254_.other W266_ (Or.inr (js2 hw).symm)
      have fc272_ := Fw249_.other W266_ (Or.inr (js3 hw).symm)
      have K266_ := K249_.wr W266_ (Or.inl (List.mem_of_getElem? (i := 0) rfl))
      have N266_ := Fr.snoc X266_ N265_ go
      refine own_fin st266_ ?_
      exact own_rV X266_ hx hlk hre (hC e17_64.2.2.2) e266_ (by decide) (by decide) ⟨((2 : Int32) + v'_265_), rfl, N266_, K266_, fc270_, fc271_, fc272_, Fw266_⟩
    · let ll11 : Array Slot := #[vR o, vR a, vR b, vU]
      refine jg s₁ mM 1 ll11 [(.ref o)] (fun tT kK => ?_) ?_
      · refine XS.aloadN X0.here hx rfl (hC e17_0.1) rfl rfl ?_
        exact kK
      obtain ⟨T281_, X281_, e281_, st281_⟩ := initO X0 hx hZ hown (jk hw 78 rfl) (jk hw 56 rfl) (jk hw 57 rfl) e0 (g := (mkF mM 1 ll11 [(.ref o)])) rfl (by rw [hml]; rfl) rfl (hC e17_0.2.1) (by decide) (W := 0) (by show 2 * 0 + _ ≤ _; exact Nat.le_of_eq rfl) (by decide)
      refine own_fin st281_ ?_
      refine jg T281_ mM 5 ll11 [(.ref a)] (fun tT kK => ?_) ?_
      · refine XS.aloadN X281_.here hx rfl (hC e17_0.2.2.1) rfl rfl ?_
        exact kK
      refine jc X281_ hx hZ (y := jy28) hown (jk hw 79 rfl) (jk hw 80 rfl) (jk hw 2 rfl) (jk hw 81 rfl) (rm_isid2 lL Z a0 hw [] a t g cs fv h0 n0 (Nat.le_trans Z0 K0.1) Oo Scs ncs Sfv rfv E1 Fv1 Fc1 Tt1 ok0 (ok1 rfl)) e281_ own_pd20 [(.ref a)] [] (hC e17_0.2.2.2) rfl rfl (by rw [hml]; rfl) (by decide) 0 (Nat.le_of_eq rfl) (by decide) (by decide) (by decide : 0 + 0 ≤ _) (by decide : 0 + 0 ≤ _) fun vv282_ T282_ L282_ X282_ hQ282_ => ?_
      obtain ⟨rfl, N282_q, p282__0⟩ := hQ282_
      have N282_ := Fr.app N0 N282_q
      refine jg T282_ mM 22 ll11 [(.ref b)] (fun tT kK => ?_) ?_
      · refine XS.ifYes X282_.here hx rfl (pc0 := 8) (pc' := 21) rfl (hC e17_8.1) rfl ((if0 _ _).trans (feq ((by decide) : ¬ ((1 : Int32) = (0 : Int32)))).2) (by decide) (by decide) ?_
        refine XS.aloadN X282_.here hx rfl (hC e17_8.2.1) rfl rfl ?_
        exact kK
      refine jc X282_ hx hZ (y := jy34) hown (jk hw 98 rfl) (jk hw 99 rfl) (jk hw 2 rfl) (jk hw 100 rfl) (rm_pp2 lL Z a0 hw [] b t2 em f cs fv h0 n0 (Nat.le_trans Z0 K0.1) Oo Scs ncs Sfv rfv Se E2 Fv2 Fc2 Tt2 h9 h10) p282__0 own_pd21 [(.ref b)] [] (hC e17_8.2.2) rfl rfl (by rw [hml]; rfl) (by decide) 0 (Nat.le_of_eq rfl) (by decide) (by decide) (by decide : 0 + 0 ≤ _) (by decide : 0 + 0 ≤ _) fun vv283_ T283_ L283_ X283_ hQ283_ => ?_
      obtain ⟨rfl, N283_q, p283__0⟩ := hQ283_
      have N283_ := Fr.app N282_ N283_q
      let ll12 : Array Slot := #[vR o, vR a, vR b, vR em]
      refine jg T283_ mM 27 ll12 [(.ref em)] (fun tT kK => ?_) ?_
      · refine XS.astoreN X283_.here hx rfl (hC e17_25.1) rfl rfl (l' := ll12) rfl ?_
        refine XS.aloadN X283_.here hx rfl (hC e17_25.2.1) rfl rfl ?_
        exact kK
      refine jv X283_ hx hZ (y := jy30) hown (jk hw 134 rfl) (jk hw 135 rfl) (jk hw 137 rfl) (jk hw 136 rfl) (jk hw 138 rfl) (jk hw 103 rfl) (rm_ip lL Z a0 hw [] em h0 n0 (Nat.le_trans Z0 K0.1) Fem) Eem p283__0 own_pd3 [] [] (hC e17_25.2.2.1) rfl rfl (by rw [hml]; rfl) (by decide) 0 (Nat.le_of_eq rfl) (by decide) (by decide) (by decide : 0 + 0 ≤ _) (by decide : 0 + 0 ≤ _) fun vv284_ T284_ L284_ X284_ hQ284_ => ?_
      obtain ⟨rfl, N284_q, p284__0⟩ := hQ284_
      have N284_ := Fr.app N283_ N284_q
      refine jg T284_ mM 50 ll12 [(.ref a), (.ref o)] (fun tT kK => ?_) ?_
      · refine XS.ifYes X284_.here hx rfl (pc0 := 30) (pc' := 48) rfl (hC e17_25.2.2.2) rfl ((if0 _ _).trans (teq ((by decide) : (0 : Int32) = (0 : Int32))).1) (by decide) (by decide) ?_
        refine XS.aloadN X284_.here hx rfl (hC e17_48.1) rfl rfl ?_
        refine XS.aloadN X284_.here hx rfl (hC e17_48.2.1) rfl rfl ?_
        exact kK
      obtain ⟨T285_, h285_, X285_, e285_, W285_, st285_⟩ := putF X284_ hx hZ hown (host := "") (Or.inl (jk hw 141 rfl)) Via.refl p284__0 I1 I0 (Or.inr ⟨(jk hw 142 rfl), rfl, hnm⟩) (jk hw 1 rfl) (ty := (.object "java/lang/String")) (by decide) rfl rfl (g := (mkF mM 50 ll12 [(.ref a), (.ref o)])) rfl rfl (hC e17_48.2.2)
      have Fw285_ := I1.same W285_
      have ne287_ : a ≠ o := (Exa.ne E1 I0 (by decide))
      have ne288_ : t ≠ o := (Ne.symm (own_neT I0 Tt1 (jk hw 1 rfl)))
      have ne289_ : b ≠ o := (Exa.ne E2 I0 (by decide))
      have ne290_ : t2 ≠ o := (Ne.symm (own_neT I0 Tt2 (jk hw 1 rfl)))
      have fc291_ := Oo.wr W285_ go
      have fc294_ := I0.wr W285_
      have fc295_ := I2.other W285_ (Or.inr (js1 hw))
      have fc296_ := I3.other W285_ (Or.inr (js2 hw))
      have fc297_ := E1.wr W285_
      have fc298_ := Fv1.other W285_ (Or.inl ne287_)
      have fc299_ := Fc1.other W285_ (Or.inl ne287_)
      have fc300_ := Tt1.other W285_ ne288_
      have fc301_ := E2.wr W285_
      have fc302_ := Fv2.other W285_ (Or.inl ne289_)
      have fc303_ := Fc2.other W285_ (Or.inl ne289_)
      have fc304_ := Tt2.other W285_ ne290_
      have K285_ := K0.wr W285_ (Or.inl (List.mem_of_getElem? (i := 0) rfl))
      have N285_ := Fr.snoc X285_ N284_ go
      refine own_fin st285_ ?_
      refine jg T285_ mM 55 ll12 [(.ref b), (.ref o)] (fun tT kK => ?_) ?_
      · refine XS.aloadN X285_.here hx rfl (hC e17_53.1) rfl rfl ?_
        refine XS.aloadN X285_.here hx rfl (hC e17_53.2.1) rfl rfl ?_
        exact kK
      obtain ⟨T305_, h305_, X305_, e305_, W305_, st305_⟩ := putF X285_ hx hZ hown (host := "") (Or.inl (jk hw 143 rfl)) Via.refl e285_ fc295_ fc294_ (Or.inr ⟨(jk hw 144 rfl), rfl, hnm⟩) (jk hw 1 rfl) (ty := (.object "java/lang/String")) (by decide) rfl rfl (g := (mkF mM 55 ll12 [(.ref b), (.ref o)])) rfl rfl (hC e17_53.2.2)
      have Fw305_ := fc295_.same W305_
      have fc306_ := fc291_.wr W305_ go
      have fc309_ := fc294_.wr W305_
      have fc310_ := Fw285_.other W305_ (Or.inr (js1 hw).symm)
      have fc311_ := fc296_.other W305_ (Or.inr (js3 hw))
      have fc312_ := fc297_.wr W305_
      have fc313_ := fc298_.other W305_ (Or.inl ne287_)
      have fc314_ := fc299_.other W305_ (Or.inl ne287_)
      have fc315_ := fc300_.other W305_ ne288_
      have fc316_ := fc301_.wr W305_
      have fc317_ := fc302_.other W305_ (Or.inl ne289_)
      have fc318_ := fc303_.other W305_ (Or.inl ne289_)
      have fc319_ := fc304_.other W305_ ne290_
      have K305_ := K285_.wr W305_ (Or.inl (List.mem_of_getElem? (i := 0) rfl))
      have N305_ := Fr.snoc X305_ N285_ go
      refine own_fin st305_ ?_
      refine jg T305_ mM 60 ll12 [(.ref a), (.ref o)] (fun tT kK => ?_) ?_
      · refine XS.aloadN X305_.here hx rfl (hC e17_58.1) rfl rfl ?_
        refine XS.aloadN X305_.here hx rfl (hC e17_58.2.1) rfl rfl ?_
        exact kK
      refine jv X305_ hx hZ (y := jy1) hown (jk hw 87 rfl) (jk hw 88 rfl) (jk hw 90 rfl) (jk hw 89 rfl) (jk hw 91 rfl) (jk hw 11 rfl) (rm_slen lL Z a0 hw [] a t (2 : Int32) g cs h305_ n0 (Nat.le_trans Z0 K305_.1) fc306_ Scs ncs fc312_ fc313_ fc314_ fc315_) fc312_ e305_ own_pd12 [] [(.ref o)] (hC e17_58.2.2.1) rfl rfl (by rw [hml]; rfl) (by decide) 1 (Nat.le_of_eq rfl) (by decide) (by decide) (by decide : 0 + 0 ≤ _) (by decide : 0 + 0 ≤ _) fun vv320_ T320_ L320_ X320_ hQ320_ => ?_
      obtain ⟨rfl, N320_q, p320__0⟩ := hQ320_
      have N320_ := Fr.app N305_ N320_q
      refine jg T320_ mM 64 ll12 [(.ref b), (.int (2 : Int32)), (.ref o)] (fun tT kK => ?_) ?_
      · refine XS.aloadN X320_.here hx rfl (hC e17_58.2.2.2) rfl rfl ?_
        exact kK
      refine jc X320_ hx hZ (y := jy33) hown (jk hw 106 rfl) (jk hw 107 rfl) (jk hw 2 rfl) (jk hw 108 rfl) (rm_ul2 lL Z a0 hw [] b t2 f cs fv h305_ n0 (Nat.le_trans Z0 K305_.1) fc306_ Scs ncs Sfv rfv fc316_ fc317_ fc318_ fc319_) p320__0 own_pd19 [(.ref b)] [(.int (2 : Int32)), (.ref o)] (hC e17_64.1) rfl rfl (by rw [hml]; rfl) (by decide) 2 (Nat.le_of_eq rfl) (by decide) (by decide) (by decide : 0 + 0 ≤ _) (by decide : 0 + 0 ≤ _) fun vv321_ T321_ L321_ X321_ hQ321_ => ?_
      obtain ⟨v'_321_, rfl, N321_q, p321__0, p321__1⟩ := hQ321_
      have N321_ := Fr.app N320_ N321_q
      refine jg T321_ mM 68 ll12 [(.int ((2 : Int32) + v'_321_)), (.ref o)] (fun tT kK => ?_) ?_
      · refine XS.iadd X321_.here hx rfl (hC e17_64.2.1) rfl ?_
        exact kK
      obtain ⟨T322_, h322_, X322_, e322_, W322_, st322_⟩ := putF X321_ hx hZ hown (host := "") (Or.inl (jk hw 145 rfl)) Via.refl p321__0 fc311_ fc309_ (Or.inr ⟨(jk hw 146 rfl), rfl, hnm⟩) (jk hw 1 rfl) (ty := .int) (by decide) rfl rfl (g := (mkF mM 68 ll12 [(.int ((2 : Int32) + v'_321_)), (.ref o)])) rfl rfl (hC e17_64.2.2.1)
      have Fw322_ := fc311_.same W322_
      have fc326_ := fc309_.wr W322_
      have fc327_ := fc310_.other W322_ (Or.inr (js2 hw).symm)
      have fc328_ := Fw305_.other W322_ (Or.inr (js3 hw).symm)
      have K322_ := K305_.wr W322_ (Or.inl (List.mem_of_getElem? (i := 0) rfl))
      have N322_ := Fr.snoc X322_ N321_ go
      refine own_fin st322_ ?_
      exact own_rV X322_ hx hlk hre (hC e17_64.2.2.2) e322_ (by decide) (by decide) ⟨((2 : Int32) + v'_321_), rfl, N322_, K322_, fc326_, fc327_, fc328_, Fw322_⟩
theorem e33_0 : jD36 0 (.aload_n 1, 1) ∧ jD36 1 (.instanceof 8, 3) ∧ jD36 4 (.ifCond .eq 40, 3) ∧ jD36 7 (.aload_n 1, 1) := by decide +kernel
theorem e33_8 : jD36 8 (.checkcast 8, 3) ∧ jD36 11 (.astore_n 2, 1) ∧ jD36 12 (.aload_n 0, 1) ∧ jD36 13 (.getfield 36, 3) := by decide +kernel
theorem e33_16 : jD36 16 (.aload_n 2, 1) ∧ jD36 17 (.getfield 36, 3) ∧ jD36 20 (.invokevirtual 139, 3) := by decide +kernel
theorem own_pd22 : parseMethodDescriptor "(Ljava/lang/Object;)Z" = some ⟨[(.object "java/lang/Object")], some .boolean⟩ := by decide +kernel
theorem e33_23 : jD36 23 (.ifCond .eq 21, 3) ∧ jD36 44 (.iconst 0, 1) ∧ jD36 45 (.ireturn, 1) ∧ jD36 26 (.aload_n 0, 1) := by decide +kernel
theorem e33_27 : jD36 27 (.getfield 40, 3) ∧ jD36 30 (.aload_n 2, 1) ∧ jD36 31 (.getfield 40, 3) ∧ jD36 34 (.invokevirtual 139, 3) := by decide +kernel
theorem e33_37 : jD36 37 (.ifCond .eq 7, 3) ∧ jD36 40 (.iconst 1, 1) ∧ jD36 41 (.goto 4, 3) := by decide +kernel
theorem own_ef_rm_ieq (mM : MethodId) (x0 : Addr) (x1 : Addr) : entryFrame mM #[(.ref x0), (.ref x1)] 3 = mkF mM 0 #[.val (.ref x0), .val (.ref x1), .unset] [] := by first | (simp [entryFrame, mkF, argsToLocals, Value.category]; done) | rfl
def Q_rm_ieq (Z : State) (o : Addr) (o2 : Addr) (a1 : Addr) (t1 : Addr) (a2 : Addr) (t2 : Addr) (a3 : Addr) (t3 : Addr) (a4 : Addr) (t4 : Addr) (z1 : Int32) (z2 : Int32) (z3 : Int32) (z4 : Int32) (f1 : Int32 → Int32) (f2 : Int32 → Int32) (f3 : Int32 → Int32) (f4 : Int32 → Int32) (v1 : Int32) (v2 : Int32) (cs : Int32) (h0 : Heap) (n0 : Nat) (vV : Option Value) (hH : Heap) (lA : List Loc) : Prop := vV = some (.int (if (own_eq z1 f1 z2 f2) = (0 : Int32) then (0 : Int32) else (if (own_eq z3 f3 z4 f4) = (0 : Int32) then (0 : Int32) else (1 : Int32)))) ∧ Fr n0 lA ∧ (hH = h0)
set_option maxRecDepth 65536 in
set_option maxHeartbeats 40000000 in
theorem rm_ieq (lL : Launch) (Z : State) (a0 : Array Value) (hw : own_H a0 Z) (ws : List Jvm.Cond) (o : Addr) (o2 : Addr) (a1 : Addr) (t1 : Addr) (a2 : Addr) (t2 : Addr) (a3 : Addr) (t3 : Addr) (a4 : Addr) (t4 : Addr) (z1 : Int32) (z2 : Int32) (z3 : Int32) (z4 : Int32) (f1 : Int32 → Int32) (f2 : Int32 → Int32) (f3 : Int32 → Int32) (f4 : Int32 → Int32) (v1 : Int32) (v2 : Int32) (cs : Int32) (h0 : Heap) (n0 : Nat) (Z0 : n0 ≤ h0.size) (Oo : Old Z n0 h0) (Scs : Sta Z Z.heap "java/lang/String" "COMPACT_STRINGS" "Z" (.int cs)) (ncs : ¬ (cs = (0 : Int32))) (I0 : jE1 Z h0 o) (I1 : jF3 Z h0 o (.ref a1)) (I2 : jF4 Z h0 o (.ref a3)) (I3 : jF5 Z h0 o (.int v1)) (J0 : jE1 Z h0 o2) (J1 : jF3 Z h0 o2 (.ref a2)) (J2 : jF4 Z h0 o2 (.ref a4)) (J3 : jF5 Z h0 o2 (.int v2)) (E1 : jE0 Z h0 a1) (Fv1 : jF1 Z h0 a1 (.ref t1)) (Fc1 : jF0 Z h0 a1 (.int (0 : Int32))) (Tt1 : own_T Z h0 t1 .byte z1 f1) (E3 : jE0 Z h0 a3) (Fv3 : jF1 Z h0 a3 (.ref t3)) (Fc3 : jF0 Z h0 a3 (.int (0 : Int32))) (Tt3 : own_T Z h0 t3 .byte z3 f3) (E2 : jE0 Z h0 a2) (Fv2 : jF1 Z h0 a2 (.ref t2)) (Fc2 : jF0 Z h0 a2 (.int (0 : Int32))) (Tt2 : own_T Z h0 t2 .byte z2 f2) (E4 : jE0 Z h0 a4) (Fv4 : jF1 Z h0 a4 (.ref t4)) (Fc4 : jF0 Z h0 a4 (.int (0 : Int32))) (Tt4 : own_T Z h0 t4 .byte z4 f4) :
    own_Met lL jy36 (Jvm.Cond.code jy36 prog_14_method_9_code 3 (some .boolean) :: ws) jr21 #[(.ref o), (.ref o2)] Z h0 (Q_rm_ieq Z o o2 a1 t1 a2 t2 a3 t3 a4 t4 z1 z2 z3 z4 f1 f2 f3 f4 v1 v2 cs h0 n0) := by
  refine own_begin (plainFor_of_name own_pn_com_example_waldrapp_waldrapp_Intent) (fun mM => own_ef_rm_ieq mM o o2) fun pP eE sS mM below meth cC s₁ hx hby hml hZ hown hnm hre hlk X0 e0 => ?_
  have hC := @Jvm.hb _ _ hby
  have N0 := Fr.nil n0
  have K0 := Keep.refl h0 ([] : List Addr)
  refine jg s₁ mM 1 #[vR o, vR o2, vU] [(.ref o2)] (fun tT kK => ?_) ?_
  · refine XS.aloadN X0.here hx rfl (hC e33_0.1) rfl rfl ?_
    exact kK
  obtain ⟨T1_, X1_, e1_, st1_⟩ := instY X0 hx hZ hown (jk hw 155 rfl) e0 (Ins.self J0) (g := (mkF mM 1 #[vR o, vR o2, vU] [(.ref o2)])) rfl rfl (hC e33_0.2.1)
  refine own_fin st1_ ?_
  refine jg T1_ mM 8 #[vR o, vR o2, vU] [(.ref o2)] (fun tT kK => ?_) ?_
  · refine XS.ifNo X1_.here hx rfl (hC e33_0.2.2.1) rfl ((if0 _ _).trans (feq ((by decide) : ¬ ((1 : Int32) = (0 : Int32)))).1) ?_
    refine XS.aloadN X1_.here hx rfl (hC e33_0.2.2.2) rfl rfl ?_
    exact kK
  obtain ⟨T2_, X2_, e2_, st2_⟩ := castY X1_ hx hZ hown (jk hw 155 rfl) e1_ (Ins.self J0) (g := (mkF mM 8 #[vR o, vR o2, vU] [(.ref o2)])) rfl rfl (hC e33_8.1)
  refine own_fin st2_ ?_
  refine jg T2_ mM 13 #[vR o, vR o2, vR o2] [(.ref o)] (fun tT kK => ?_) ?_
  · refine XS.astoreN X2_.here hx rfl (hC e33_8.2.1) rfl rfl (l' := #[vR o, vR o2, vR o2]) rfl ?_
    refine XS.aloadN X2_.here hx rfl (hC e33_8.2.2.1) rfl rfl ?_
    exact kK
  refine jf X2_ hx hZ hown (jk hw 141 rfl) e2_ I1 (hC e33_8.2.2.2) fun T3_ X3_ e3_ => ?_
  refine jg T3_ mM 17 #[vR o, vR o2, vR o2] [(.ref o2), (.ref a1)] (fun tT kK => ?_) ?_
  · refine XS.aloadN X3_.here hx rfl (hC e33_16.1) rfl rfl ?_
    exact kK
  refine jf X3_ hx hZ hown (jk hw 141 rfl) e3_ J1 (hC e33_16.2.1) fun T4_ X4_ e4_ => ?_
  refine jv X4_ hx hZ (y := jy20) hown (jk hw 157 rfl) (jk hw 158 rfl) (jk hw 160 rfl) (jk hw 159 rfl) (jk hw 161 rfl) (jk hw 11 rfl) (rm_eq lL Z a0 hw [] a1 a2 t1 t2 z1 f1 z2 f2 cs h0 n0 (Nat.le_trans Z0 K0.1) Oo Scs ncs E1 Fv1 Fc1 Tt1 E2 Fv2 Fc2 Tt2) E1 e4_ own_pd22 [(.ref a2)] [] (hC e33_16.2.2) rfl rfl (by rw [hml]; rfl) (by decide) 0 (Nat.le_of_eq rfl) (by decide) (by decide) (by decide : 0 + 0 ≤ _) (by decide : 0 + 0 ≤ _) fun vv5_ T5_ L5_ X5_ hQ5_ => ?_
  obtain ⟨rfl, N5_q, p5__0⟩ := hQ5_
  have N5_ := Fr.app N0 N5_q
  by_cases hc23_6_ : (own_eq z1 f1 z2 f2) = (0 : Int32)
  · refine jg T5_ mM 45 #[vR o, vR o2, vR o2] [(.int (0 : Int32))] (fun tT kK => ?_) ?_
    · refine XS.ifYes X5_.here hx rfl (pc0 := 23) (pc' := 44) rfl (hC e33_23.1) rfl ((if0 _ _).trans (teq (hc23_6_ : (own_eq z1 f1 z2 f2) = (0 : Int32))).1) (by decide) (by decide) ?_
      refine XS.iconst X5_.here hx rfl (hC e33_23.2.1) ?_
      exact kK
    exact own_rL X5_ hx hlk hre (by simp) (hC e33_23.2.2.1) (w := (.int (0 : Int32))) rfl p5__0 (by decide) (by decide) ⟨by rw [if_pos hc23_6_], N5_, rfl⟩
  · refine jg T5_ mM 27 #[vR o, vR o2, vR o2] [(.ref o)] (fun tT kK => ?_) ?_
    · refine XS.ifNo X5_.here hx rfl (hC e33_23.1) rfl ((if0 _ _).trans (feq (hc23_6_ : ¬ ((own_eq z1 f1 z2 f2) = (0 : Int32)))).1) ?_
      refine XS.aloadN X5_.here hx rfl (hC e33_23.2.2.2) rfl rfl ?_
      exact kK
    refine jf X5_ hx hZ hown (jk hw 143 rfl) p5__0 I2 (hC e33_27.1) fun T7_ X7_ e7_ => ?_
    refine jg T7_ mM 31 #[vR o, vR o2, vR o2] [(.ref o2), (.ref a3)] (fun tT kK => ?_) ?_
    · refine XS.aloadN X7_.here hx rfl (hC e33_27.2.1) rfl rfl ?_
      exact kK
    refine jf X7_ hx hZ hown (jk hw 143 rfl) e7_ J2 (hC e33_27.2.2.1) fun T8_ X8_ e8_ => ?_
    refine jv X8_ hx hZ (y := jy20) hown (jk hw 157 rfl) (jk hw 158 rfl) (jk hw 160 rfl) (jk hw 159 rfl) (jk hw 161 rfl) (jk hw 11 rfl) (rm_eq lL Z a0 hw [] a3 a4 t3 t4 z3 f3 z4 f4 cs h0 n0 (Nat.le_trans Z0 K0.1) Oo Scs ncs E3 Fv3 Fc3 Tt3 E4 Fv4 Fc4 Tt4) E3 e8_ own_pd22 [(.ref a4)] [] (hC e33_27.2.2.2) rfl rfl (by rw [hml]; rfl) (by decide) 0 (Nat.le_of_eq rfl) (by decide) (by decide) (by decide : 0 + 0 ≤ _) (by decide : 0 + 0 ≤ _) fun vv9_ T9_ L9_ X9_ hQ9_ => ?_
    obtain ⟨rfl, N9_q, p9__0⟩ := hQ9_
    have N9_ := Fr.app N5_ N9_q
    by_cases hc37_10_ : (own_eq z3 f3 z4 f4) = (0 : Int32)
    · refine jg T9_ mM 45 #[vR o, vR o2, vR o2] [(.int (0 : Int32))] (fun tT kK => ?_) ?_
      · refine XS.ifYes X9_.here hx rfl (pc0 := 37) (pc' := 44) rfl (hC e33_37.1) rfl ((if0 _ _).trans (teq (hc37_10_ : (own_eq z3 f3 z4 f4) = (0 : Int32))).1) (by decide) (by decide) ?_
        refine XS.iconst X9_.here hx rfl (hC e33_23.2.1) ?_
        exact kK
      exact own_rL X9_ hx hlk hre (by simp) (hC e33_23.2.2.1) (w := (.int (0 : Int32))) rfl p9__0 (by decide) (by decide) ⟨by rw [if_neg hc23_6_, if_pos hc37_10_], N9_, rfl⟩
    · refine jg T9_ mM 45 #[vR o, vR o2, vR o2] [(.int (1 : Int32))] (fun tT kK => ?_) ?_
      · refine XS.ifNo X9_.here hx rfl (hC e33_37.1) rfl ((if0 _ _).trans (feq (hc37_10_ : ¬ ((own_eq z3 f3 z4 f4) = (0 : Int32)))).1) ?_
        refine XS.iconst X9_.here hx rfl (hC e33_37.2.1) ?_
        refine XS.goto X9_.here hx rfl (pc0 := 41) (pc' := 45) rfl (hC e33_37.2.2) (by decide) (by decide) ?_
        exact kK
      exact own_rL X9_ hx hlk hre (by simp) (hC e33_23.2.2.1) (w := (.int (1 : Int32))) rfl p9__0 (by decide) (by decide) ⟨by rw [if_neg hc23_6_, if_neg hc37_10_], N9_, rfl⟩
theorem own_ef_rm_ieqs (mM : MethodId) (x0 : Addr) (x1 : Addr) : entryFrame mM #[(.ref x0), (.ref x1)] 3 = mkF mM 0 #[.val (.ref x0), .val (.ref x1), .unset] [] := by first | (simp [entryFrame, mkF, argsToLocals, Value.category]; done) | rfl
def Q_rm_ieqs (Z : State) (o : Addr) (a1 : Addr) (t1 : Addr) (a3 : Addr) (t3 : Addr) (z1 : Int32) (z3 : Int32) (f1 : Int32 → Int32) (f3 : Int32 → Int32) (v1 : Int32) (cs : Int32) (h0 : Heap) (n0 : Nat) (vV : Option Value) (hH : Heap) (lA : List Loc) : Prop := vV = some (.int (if (own_eq z1 f1 z1 f1) = (0 : Int32) then (0 : Int32) else (if (own_eq z3 f3 z3 f3) = (0 : Int32) then (0 : Int32) else (1 : Int32)))) ∧ Fr n0 lA ∧ (hH = h0)
set_option maxRecDepth 65536 in
set_option maxHeartbeats 40000000 in
theorem rm_ieqs (lL : Launch) (Z : State) (a0 : Array Value) (hw : own_H a0 Z) (ws : List Jvm.Cond) (o : Addr) (a1 : Addr) (t1 : Addr) (a3 : Addr) (t3 : Addr) (z1 : Int32) (z3 : Int32) (f1 : Int32 → Int32) (f3 : Int32 → Int32) (v1 : Int32) (cs : Int32) (h0 : Heap) (n0 : Nat) (Z0 : n0 ≤ h0.size) (Oo : Old Z n0 h0) (Scs : Sta Z Z.heap "java/lang/String" "COMPACT_STRINGS" "Z" (.int cs)) (ncs : ¬ (cs = (0 : Int32))) (I0 : jE1 Z h0 o) (I1 : jF3 Z h0 o (.ref a1)) (I2 : jF4 Z h0 o (.ref a3)) (I3 : jF5 Z h0 o (.int v1)) (E1 : jE0 Z h0 a1) (Fv1 : jF1 Z h0 a1 (.ref t1)) (Fc1 : jF0 Z h0 a1 (.int (0 : Int32))) (Tt1 : own_T Z h0 t1 .byte z1 f1) (E3 : jE0 Z h0 a3) (Fv3 : jF1 Z h0 a3 (.ref t3)) (Fc3 : jF0 Z h0 a3 (.int (0 : Int32))) (Tt3 : own_T Z h0 t3 .byte z3 f3) :
    own_Met lL jy36 (Jvm.Cond.code jy36 prog_14_method_9_code 3 (some .boolean) :: ws) jr21 #[(.ref o), (.ref o)] Z h0 (Q_rm_ieqs Z o a1 t1 a3 t3 z1 z3 f1 f3 v1 cs h0 n0) := by
  refine own_begin (plainFor_of_name own_pn_com_example_waldrapp_waldrapp_Intent) (fun mM => own_ef_rm_ieqs mM o o) fun pP eE sS mM below meth cC s₁ hx hby hml hZ hown hnm hre hlk X0 e0 => ?_
  have hC := @Jvm.hb _ _ hby
  have N0 := Fr.nil n0
  have K0 := Keep.refl h0 ([] : List Addr)
  refine jg s₁ mM 1 #[vR o, vR o, vU] [(.ref o)] (fun tT kK => ?_) ?_
  · refine XS.aloadN X0.here hx rfl (hC e33_0.1) rfl rfl ?_
    exact kK
  obtain ⟨T1_, X1_, e1_, st1_⟩ := instY X0 hx hZ hown (jk hw 155 rfl) e0 (Ins.self I0) (g := (mkF mM 1 #[vR o, vR o, vU] [(.ref o)])) rfl rfl (hC e33_0.2.1)
  refine own_fin st1_ ?_
  refine jg T1_ mM 8 #[vR o, vR o, vU] [(.ref o)] (fun tT kK => ?_) ?_
  · refine XS.ifNo X1_.here hx rfl (hC e33_0.2.2.1) rfl ((if0 _ _).trans (feq ((by decide) : ¬ ((1 : Int32) = (0 : Int32)))).1) ?_
    refine XS.aloadN X1_.here hx rfl (hC e33_0.2.2.2) rfl rfl ?_
    exact kK
  obtain ⟨T2_, X2_, e2_, st2_⟩ := castY X1_ hx hZ hown (jk hw 155 rfl) e1_ (Ins.self I0) (g := (mkF mM 8 #[vR o, vR o, vU] [(.ref o)])) rfl rfl (hC e33_8.1)
  refine own_fin st2_ ?_
  refine jg T2_ mM 13 #[vR o, vR o, vR o] [(.ref o)] (fun tT kK => ?_) ?_
  · refine XS.astoreN X2_.here hx rfl (hC e33_8.2.1) rfl rfl (l' := #[vR o, vR o, vR o]) rfl ?_
    refine XS.aloadN X2_.here hx rfl (hC e33_8.2.2.1) rfl rfl ?_
    exact kK
  refine jf X2_ hx hZ hown (jk hw 141 rfl) e2_ I1 (hC e33_8.2.2.2) fun T3_ X3_ e3_ => ?_
  refine jg T3_ mM 17 #[vR o, vR o, vR o] [(.ref o), (.ref a1)] (fun tT kK => ?_) ?_
  · refine XS.aloadN X3_.here hx rfl (hC e33_16.1) rfl rfl ?_
    exact kK
  refine jf X3_ hx hZ hown (jk hw 141 rfl) e3_ I1 (hC e33_16.2.1) fun T4_ X4_ e4_ => ?_
  refine jv X4_ hx hZ (y := jy20) hown (jk hw 157 rfl) (jk hw 158 rfl) (jk hw 160 rfl) (jk hw 159 rfl) (jk hw 161 rfl) (jk hw 11 rfl) (rm_eq lL Z a0 hw [] a1 a1 t1 t1 z1 f1 z1 f1 cs h0 n0 (Nat.le_trans Z0 K0.1) Oo Scs ncs E1 Fv1 Fc1 Tt1 E1 Fv1 Fc1 Tt1) E1 e4_ own_pd22 [(.ref a1)] [] (hC e33_16.2.2) rfl rfl (by rw [hml]; rfl) (by decide) 0 (Nat.le_of_eq rfl) (by decide) (by decide) (by decide : 0 + 0 ≤ _) (by decide : 0 + 0 ≤ _) fun vv5_ T5_ L5_ X5_ hQ5_ => ?_
  obtain ⟨rfl, N5_q, p5__0⟩ := hQ5_
  have N5_ := Fr.app N0 N5_q
  by_cases hc23_6_ : (own_eq z1 f1 z1 f1) = (0 : Int32)
  · refine jg T5_ mM 45 #[vR o, vR o, vR o] [(.int (0 : Int32))] (fun tT kK => ?_) ?_
    · refine XS.ifYes X5_.here hx rfl (pc0 := 23) (pc' := 44) rfl (hC e33_23.1) rfl ((if0 _ _).trans (teq (hc23_6_ : (own_eq z1 f1 z1 f1) = (0 : Int32))).1) (by decide) (by decide) ?_
      refine XS.iconst X5_.here hx rfl (hC e33_23.2.1) ?_
      exact kK
    exact own_rL X5_ hx hlk hre (by simp) (hC e33_23.2.2.1) (w := (.int (0 : Int32))) rfl p5__0 (by decide) (by decide) ⟨by rw [if_pos hc23_6_], N5_, rfl⟩
  · refine jg T5_ mM 27 #[vR o, vR o, vR o] [(.ref o)] (fun tT kK => ?_) ?_
    · refine XS.ifNo X5_.here hx rfl (hC e33_23.1) rfl ((if0 _ _).trans (feq (hc23_6_ : ¬ ((own_eq z1 f1 z1 f1) = (0 : Int32)))).1) ?_
      refine XS.aloadN X5_.here hx rfl (hC e33_23.2.2.2) rfl rfl ?_
      exact kK
    refine jf X5_ hx hZ hown (jk hw 143 rfl) p5__0 I2 (hC e33_27.1) fun T7_ X7_ e7_ => ?_
    refine jg T7_ mM 31 #[vR o, vR o, vR o] [(.ref o), (.ref a3)] (fun tT kK => ?_) ?_
    · refine XS.aloadN X7_.here hx rfl (hC e33_27.2.1) rfl rfl ?_
      exact kK
    refine jf X7_ hx hZ hown (jk hw 143 rfl) e7_ I2 (hC e33_27.2.2.1) fun T8_ X8_ e8_ => ?_
    refine jv X8_ hx hZ (y := jy20) hown (jk hw 157 rfl) (jk hw 158 rfl) (jk hw 160 rfl) (jk hw 159 rfl) (jk hw 161 rfl) (jk hw 11 rfl) (rm_eq lL Z a0 hw [] a3 a3 t3 t3 z3 f3 z3 f3 cs h0 n0 (Nat.le_trans Z0 K0.1) Oo Scs ncs E3 Fv3 Fc3 Tt3 E3 Fv3 Fc3 Tt3) E3 e8_ own_pd22 [(.ref a3)] [] (hC e33_27.2.2.2) rfl rfl (by rw [hml]; rfl) (by decide) 0 (Nat.le_of_eq rfl) (by decide) (by decide) (by decide : 0 + 0 ≤ _) (by decide : 0 + 0 ≤ _) fun vv9_ T9_ L9_ X9_ hQ9_ => ?_
    obtain ⟨rfl, N9_q, p9__0⟩ := hQ9_
    have N9_ := Fr.app N5_ N9_q
    by_cases hc37_10_ : (own_eq z3 f3 z3 f3) = (0 : Int32)
    · refine jg T9_ mM 45 #[vR o, vR o, vR o] [(.int (0 : Int32))] (fun tT kK => ?_) ?_
      · refine XS.ifYes X9_.here hx rfl (pc0 := 37) (pc' := 44) rfl (hC e33_37.1) rfl ((if0 _ _).trans (teq (hc37_10_ : (own_eq z3 f3 z3 f3) = (0 : Int32))).1) (by decide) (by decide) ?_
        refine XS.iconst X9_.here hx rfl (hC e33_23.2.1) ?_
        exact kK
      exact own_rL X9_ hx hlk hre (by simp) (hC e33_23.2.2.1) (w := (.int (0 : Int32))) rfl p9__0 (by decide) (by decide) ⟨by rw [if_neg hc23_6_, if_pos hc37_10_], N9_, rfl⟩
    · refine jg T9_ mM 45 #[vR o, vR o, vR o] [(.int (1 : Int32))] (fun tT kK => ?_) ?_
      · refine XS.ifNo X9_.here hx rfl (hC e33_37.1) rfl ((if0 _ _).trans (feq (hc37_10_ : ¬ ((own_eq z3 f3 z3 f3) = (0 : Int32)))).1) ?_
        refine XS.iconst X9_.here hx rfl (hC e33_37.2.1) ?_
        refine XS.goto X9_.here hx rfl (pc0 := 41) (pc' := 45) rfl (hC e33_37.2.2) (by decide) (by decide) ?_
        exact kK
      exact own_rL X9_ hx hlk hre (by simp) (hC e33_23.2.2.1) (w := (.int (1 : Int32))) rfl p9__0 (by decide) (by decide) ⟨by rw [if_neg hc23_6_, if_neg hc37_10_], N9_, rfl⟩
theorem own_ef_rm_ien (mM : MethodId) (x0 : Addr) : entryFrame mM #[(.ref x0), .null] 3 = mkF mM 0 #[.val (.ref x0), .val .null, .unset] [] := by first | (simp [entryFrame, mkF, argsToLocals, Value.category]; done) | rfl
def Q_rm_ien (Z : State) (o : Addr) (h0 : Heap) (n0 : Nat) (vV : Option Value) (hH : Heap) (lA : List Loc) : Prop := vV = some (.int (0 : Int32)) ∧ Fr n0 lA ∧ (hH = h0)
set_option maxRecDepth 65536 in
set_option maxHeartbeats 40000000 in
theorem rm_ien (lL : Launch) (Z : State) (a0 : Array Value) (hw : own_H a0 Z) (ws : List Jvm.Cond) (o : Addr) (h0 : Heap) (n0 : Nat) (Z0 : n0 ≤ h0.size) :
    own_Met lL jy36 (Jvm.Cond.code jy36 prog_14_method_9_code 3 (some .boolean) :: ws) jr0 #[(.ref o), .null] Z h0 (Q_rm_ien Z o h0 n0) := by
  refine own_begin (plainFor_of_name own_pn_com_example_waldrapp_waldrapp_Intent) (fun mM => own_ef_rm_ien mM o) fun pP eE sS mM below meth cC s₁ hx hby hml hZ hown hnm hre hlk X0 e0 => ?_
  have hC := @Jvm.hb _ _ hby
  have N0 := Fr.nil n0
  have K0 := Keep.refl h0 ([] : List Addr)
  refine jg s₁ mM 1 #[vR o, vN, vU] [.null] (fun tT kK => ?_) ?_
  · refine XS.aloadN X0.here hx rfl (hC e33_0.1) rfl rfl ?_
    exact kK
  refine jg s₁ mM 45 #[vR o, vN, vU] [(.int (0 : Int32))] (fun tT kK => ?_) ?_
  · refine X0.instanceofNull hx (g := (mkF mM 1 #[vR o, vN, vU] [.null])) rfl rfl (hC e33_0.2.1) _ ?_
    refine XS.ifYes X0.here hx rfl (pc0 := 4) (pc' := 44) rfl (hC e33_0.2.2.1) rfl ((if0 _ _).trans (teq ((by decide) : (0 : Int32) = (0 : Int32))).1) (by decide) (by decide) ?_
    refine XS.iconst X0.here hx rfl (hC e33_23.2.1) ?_
    exact kK
  exact own_rL X0 hx hlk hre (by simp) (hC e33_23.2.2.1) (w := (.int (0 : Int32))) rfl e0 (by decide) (by decide) ⟨rfl, N0, rfl⟩
theorem own_ef_rm_iet (mM : MethodId) (x0 : Addr) (x1 : Addr) : entryFrame mM #[(.ref x0), (.ref x1)] 3 = mkF mM 0 #[.val (.ref x0), .val (.ref x1), .unset] [] := by first | (simp [entryFrame, mkF, argsToLocals, Value.category]; done) | rfl
def Q_rm_iet (Z : State) (o : Addr) (b : Addr) (h0 : Heap) (n0 : Nat) (vV : Option Value) (hH : Heap) (lA : List Loc) : Prop := vV = some (.int (0 : Int32)) ∧ Fr n0 lA ∧ (hH = h0)
set_option maxRecDepth 65536 in
set_option maxHeartbeats 40000000 in
theorem rm_iet (lL : Launch) (Z : State) (a0 : Array Value) (hw : own_H a0 Z) (ws : List Jvm.Cond) (o : Addr) (b : Addr) (h0 : Heap) (n0 : Nat) (Z0 : n0 ≤ h0.size) (Eb : jE0 Z h0 b) :
    own_Met lL jy36 (Jvm.Cond.code jy36 prog_14_method_9_code 3 (some .boolean) :: ws) jr0 #[(.ref o), (.ref b)] Z h0 (Q_rm_iet Z o b h0 n0) := by
  refine own_begin (plainFor_of_name own_pn_com_example_waldrapp_waldrapp_Intent) (fun mM => own_ef_rm_iet mM o b) fun pP eE sS mM below meth cC s₁ hx hby hml hZ hown hnm hre hlk X0 e0 => ?_
  have hC := @Jvm.hb _ _ hby
  have N0 := Fr.nil n0
  have K0 := Keep.refl h0 ([] : List Addr)
  refine jg s₁ mM 1 #[vR o, vR b, vU] [(.ref b)] (fun tT kK => ?_) ?_
  · refine XS.aloadN X0.here hx rfl (hC e33_0.1) rfl rfl ?_
    exact kK
  obtain ⟨T1_, X1_, e1_, st1_⟩ := instNo X0 hx hZ hown (jk hw 155 rfl) e0 Eb (own_NSno (jk hw 171 rfl) (jk hw 1 rfl) (NS.step (jk hw 171 rfl) (own_NSroot (jk hw 172 rfl) (jk hw 1 rfl) (by decide)) (by decide)) (by decide)) (g := (mkF mM 1 #[vR o, vR b, vU] [(.ref b)])) rfl rfl (hC e33_0.2.1)
  refine own_fin st1_ ?_
  refine jg T1_ mM 45 #[vR o, vR b, vU] [(.int (0 : Int32))] (fun tT kK => ?_) ?_
  · refine XS.ifYes X1_.here hx rfl (pc0 := 4) (pc' := 44) rfl (hC e33_0.2.2.1) rfl ((if0 _ _).trans (teq ((by decide) : (0 : Int32) = (0 : Int32))).1) (by decide) (by decide) ?_
    refine XS.iconst X1_.here hx rfl (hC e33_23.2.1) ?_
    exact kK
  exact own_rL X1_ hx hlk hre (by simp) (hC e33_23.2.2.1) (w := (.int (0 : Int32))) rfl e1_ (by decide) (by decide) ⟨rfl, N0, rfl⟩
theorem e36_0 : jD37 0 (.aload_n 0, 1) ∧ jD37 1 (.getfield 36, 3) ∧ jD37 4 (.areturn, 1) := by decide +kernel
theorem own_ef_rm_gid (mM : MethodId) (x0 : Addr) : entryFrame mM #[(.ref x0)] 1 = mkF mM 0 #[.val (.ref x0)] [] := by first | (simp [entryFrame, mkF, argsToLocals, Value.category]; done) | rfl
def Q_rm_gid (Z : State) (o : Addr) (a : Addr) (h0 : Heap) (n0 : Nat) (vV : Option Value) (hH : Heap) (lA : List Loc) : Prop := vV = some (.ref a) ∧ Fr n0 lA ∧ (hH = h0)
set_option maxRecDepth 65536 in
set_option maxHeartbeats 40000000 in
theorem rm_gid (lL : Launch) (Z : State) (a0 : Array Value) (hw : own_H a0 Z) (ws : List Jvm.Cond) (o : Addr) (a : Addr) (h0 : Heap) (n0 : Nat) (Z0 : n0 ≤ h0.size) (Fi : jF3 Z h0 o (.ref a)) :
    own_Met lL jy37 (Jvm.Cond.code jy37 prog_14_method_2_code 1 (some (.object "java/lang/String")) :: ws) jr0 #[(.ref o)] Z h0 (Q_rm_gid Z o a h0 n0) := by
  refine own_begin (plainFor_of_name own_pn_com_example_waldrapp_waldrapp_Intent) (fun mM => own_ef_rm_gid mM o) fun pP eE sS mM below meth cC s₁ hx hby hml hZ hown hnm hre hlk X0 e0 => ?_
  have hC := @Jvm.hb _ _ hby
  have N0 := Fr.nil n0
  have K0 := Keep.refl h0 ([] : List Addr)
  refine jg s₁ mM 1 #[vR o] [(.ref o)] (fun tT kK => ?_) ?_
  · refine XS.aloadN X0.here hx rfl (hC e36_0.1) rfl rfl ?_
    exact kK
  refine jf X0 hx hZ hown (jk hw 141 rfl) e0 Fi (hC e36_0.2.1) fun T1_ X1_ e1_ => ?_
  exact own_rr X1_ hx hlk hre rfl (Or.inr (Or.inr (Or.inr (Or.inr ⟨rfl, rfl, rfl⟩)))) (hC e36_0.2.2) e1_ (by decide) (by decide) ⟨rfl, N0, rfl⟩
theorem own_iv (x y c0 c1 d0 d1 : Int32) : own_v (own_il x) c0 c1 (own_il y) d0 d1 = if own_il x = own_il y then (if c0 = d0 then (if own_il x = (1 : Int32) then (1 : Int32) else (if c1 = d1 then (1 : Int32) else (0 : Int32))) else (0 : Int32)) else (0 : Int32) := by
  unfold own_v
  have h : ¬ own_il x = (0 : Int32) := by rcases own_il12 x with h | h <;> (rw [h]; decide)
  rw [if_neg h]
theorem e32_0 : jD38 0 (.iload_n 0, 1) ∧ jD38 1 (.invokestatic 21, 3) ∧ jD38 4 (.istore_n 2, 1) ∧ jD38 5 (.iload_n 1, 1) := by decide +kernel
theorem e32_6 : jD38 6 (.invokestatic 21, 3) ∧ jD38 9 (.istore_n 3, 1) ∧ jD38 10 (.iload_n 2, 1) ∧ jD38 11 (.iload_n 3, 1) := by decide +kernel
theorem e32_12 : jD38 12 (.if_icmp .eq 5, 3) ∧ jD38 17 (.iload_n 0, 1) ∧ jD38 18 (.iconst 0, 1) ∧ jD38 19 (.invokestatic 15, 3) := by decide +kernel
theorem e32_22 : jD38 22 (.iload_n 1, 1) ∧ jD38 23 (.iconst 0, 1) ∧ jD38 24 (.invokestatic 15, 3) ∧ jD38 27 (.if_icmp .eq 5, 3) := by decide +kernel
theorem e32_32 : jD38 32 (.iload_n 2, 1) ∧ jD38 33 (.iconst 1, 1) ∧ jD38 34 (.if_icmp .eq 16, 3) ∧ jD38 50 (.iconst 1, 1) := by decide +kernel
theorem e32_51 : jD38 51 (.goto 4, 3) ∧ jD38 55 (.ireturn, 1) ∧ jD38 37 (.iload_n 0, 1) ∧ jD38 38 (.iconst 1, 1) := by decide +kernel
theorem e32_39 : jD38 39 (.invokestatic 15, 3) ∧ jD38 42 (.iload_n 1, 1) ∧ jD38 43 (.iconst 1, 1) ∧ jD38 44 (.invokestatic 15, 3) := by decide +kernel
theorem e32_47 : jD38 47 (.if_icmp .ne 7, 3) ∧ jD38 54 (.iconst 0, 1) ∧ jD38 30 (.iconst 0, 1) ∧ jD38 31 (.ireturn, 1) := by decide +kernel
theorem e32_15 : jD38 15 (.iconst 0, 1) ∧ jD38 16 (.ireturn, 1) := by decide +kernel
theorem own_ef_rm_iq (mM : MethodId) (x0 : Int32) (x1 : Int32) : entryFrame mM #[(.int x0), (.int x1)] 4 = mkF mM 0 #[.val (.int x0), .val (.int x1), .unset, .unset] [] := by first | (simp [entryFrame, mkF, argsToLocals, Value.category]; done) | rfl
def Q_rm_iq (Z : State) (x : Int32) (y : Int32) (cs : Int32) (fv : Value) (h0 : Heap) (n0 : Nat) (vV : Option Value) (hH : Heap) (lA : List Loc) : Prop := vV = some (.int (own_v (own_il x) (own_idc x (0 : Int32)) (own_idc x (1 : Int32)) (own_il y) (own_idc y (0 : Int32)) (own_idc y (1 : Int32)))) ∧ Fr n0 lA ∧ (Keep h0 hH [])
set_option maxRecDepth 65536 in
set_option maxHeartbeats 40000000 in
theorem rm_iq (lL : Launch) (Z : State) (a0 : Array Value) (hw : own_H a0 Z) (ws : List Jvm.Cond) (x : Int32) (y : Int32) (cs : Int32) (fv : Value) (h0 : Heap) (n0 : Nat) (Z0 : n0 ≤ h0.size) (Oo : Old Z n0 h0) (Scs : Sta Z Z.heap "java/lang/String" "COMPACT_STRINGS" "Z" (.int cs)) (ncs : ¬ (cs = (0 : Int32))) (Sfv : Sta Z Z.heap "jdk/internal/util/Preconditions" "SIOOBE_FORMATTER" "Ljava/util/function/BiFunction;" fv) (rfv : fv.isRef = true) :
    MetFree lL jy38 (head1 (Jvm.Cond.code jy38 method_5_code 4 (some .boolean) :: ws) jr22) (fun aA uU => aA = #[(.int x), (.int y)] ∧ Z.Warmed39 uU.vm ∧ uU.heap = h0 ∧ CHv Z own_EL uU.vm h0 ∧ ∀ x ∈ ([] : List Addr), Safe Z own_EL uU.vm h0 x) (fun _ _ _ _ _ => True) (fun _ uU oO uU' => ∃ vV lA, oO = .returned vV ∧ Q_rm_iq Z x y cs fv h0 n0 vV uU'.heap lA ∧ CHr Z own_EL uU.vm uU.heap uU'.vm uU'.heap ∧ ReturnedEndW uU oO uU' lA jr22.cells jr22.slots) := by
  refine MetFree.of_bodySF (plainFor_of_name own_pn_com_example_waldrapp_waldrapp_IntentEqualsPinLaw) hisR ?_
  intro pP eE sS mM args below meth cC s₁ Bd hml0 hP hK
  obtain ⟨rfl, hZ, hh, hC0, hY0⟩ := hP
  have hx := Bd.exec
  have hby := Bd.bytes
  have hC := @Jvm.hb _ _ hby
  have hml : cC.maxLocals = 4 := hml0
  have hown : sS.vm.findClass "com/example/waldrapp/waldrapp/IntentEqualsPinLaw" = some mM.cls := findClass_of_methodNamed Bd.named
  have hnm := (name_of_methodNamed Bd.named Bd.method).1
  have X0 : Stand pP lL eE jr22 (sS.setVm sS.vm) mM #[(.int x), (.int y)] below meth cC s₁ [] 0 0 := Stand.of_body Bd
  have hS0 : sS.Since sS.vm 0 := (State.WarmedH.refl sS).since 0
  have hk0 : 0 ≤ h0.size := Nat.zero_le _
  have CH0 : CHr Z own_EL sS.vm h0 sS.vm h0 := CHr.refl hC0
  have e0 : s₁.heap = h0 := by rw [← hh, Bd.state]; rfl
  have N0 := Fr.nil n0
  have K0 := Keep.refl h0 ([] : List Addr)
  show own_Fin pP eE below (fun tT oO => ∃ vV lA, oO = .returned vV ∧ Q_rm_iq Z x y cs fv h0 n0 vV tT.heap lA ∧ CHr Z own_EL sS.vm sS.heap tT.vm tT.heap ∧ ReturnedEndW sS oO tT lA jr22.cells jr22.slots) (s₁.setTop (entryFrame mM #[(.int x), (.int y)] 4))
  refine own_fin (b := s₁.setTop (mkF mM 0 #[.val (.int x), .val (.int y), .unset, .unset] [])) (fun tT kK => castTop (own_ef_rm_iq mM x y) kK) ?_
  refine jg s₁ mM 1 #[vI x, vI y, vU, vU] [(.int x)] (fun tT kK => ?_) ?_
  · refine XS.iloadN X0.here hx rfl (hC e32_0.1) rfl ?_
    exact kK
  refine jc X0 hx hZ (y := jy22) hown (jk hw 43 rfl) (jk hw 44 rfl) (jk hw 5 rfl) (jk hw 45 rfl) (rm_il lL Z a0 hw [] x h0 n0 (Nat.le_trans Z0 K0.1) ) e0 own_pd16 [(.int x)] [] (hC e32_0.2.1) rfl rfl (by rw [hml]; rfl) (by decide) 0 (Nat.le_of_eq rfl) (by decide) (by decide) (by decide : 0 + 0 ≤ _) (by decide : 0 + 0 ≤ _) fun vv1_ T1_ L1_ X1_ hQ1_ => ?_
  obtain ⟨rfl, N1_q, p1__0⟩ := hQ1_
  have N1_ := Fr.app N0 N1_q
  let ll1 : Array Slot := #[vI x, vI y, vI (own_il x), vU]
  refine jg T1_ mM 6 ll1 [(.int y)] (fun tT kK => ?_) ?_
  · refine XS.istoreN X1_.here hx rfl (hC e32_0.2.2.1) rfl (l' := ll1) rfl ?_
    refine XS.iloadN X1_.here hx rfl (hC e32_0.2.2.2) rfl ?_
    exact kK
  refine jc X1_ hx hZ (y := jy22) hown (jk hw 43 rfl) (jk hw 44 rfl) (jk hw 5 rfl) (jk hw 45 rfl) (rm_il lL Z a0 hw [] y h0 n0 (Nat.le_trans Z0 K0.1) ) p1__0 own_pd16 [(.int y)] [] (hC e32_6.1) rfl rfl (by rw [hml]; rfl) (by decide) 0 (Nat.le_of_eq rfl) (by decide) (by decide) (by decide : 0 + 0 ≤ _) (by decide : 0 + 0 ≤ _) fun vv2_ T2_ L2_ X2_ hQ2_ => ?_
  obtain ⟨rfl, N2_q, p2__0⟩ := hQ2_
  have N2_ := Fr.app N1_ N2_q
  let ll2 : Array Slot := #[vI x, vI y, vI (own_il x), vI (own_il y)]
  refine jg T2_ mM 12 ll2 [(.int (own_il y)), (.int (own_il x))] (fun tT kK => ?_) ?_
  · refine XS.istoreN X2_.here hx rfl (hC e32_6.2.1) rfl (l' := ll2) rfl ?_
    refine XS.iloadN X2_.here hx rfl (hC e32_6.2.2.1) rfl ?_
    refine XS.iloadN X2_.here hx rfl (hC e32_6.2.2.2) rfl ?_
    exact kK
  by_cases hc12_3_ : (own_il x) = (own_il y)
  · refine jg T2_ mM 19 ll2 [(.int (0 : Int32)), (.int x)] (fun tT kK => ?_) ?_
    · refine XS.icmpYes X2_.here hx rfl (pc0 := 12) (pc' := 17) rfl (hC e32_12.1) rfl (teq (hc12_3_ : (own_il x) = (own_il y))).1 (by decide) (by decide) ?_
      refine XS.iloadN X2_.here hx rfl (hC e32_12.2.1) rfl ?_
      refine XS.iconst X2_.here hx rfl (hC e32_12.2.2.1) ?_
      exact kK
    obtain ⟨_, _, ⟨T4_, L4_, k4_, n4_⟩, -, Xa4_, hSa4_, hga4_, ⟨Lc4_, hQ4_, l4_, y4_, z4_, hC4_⟩, st4_⟩ := callSS X2_ hx (y := jy21) hown (jm hZ hw 7 rfl) (jm hZ hw 8 rfl) (jm hZ hw 5 rfl) (jm hZ hw 9 rfl) (by decide) (own_backSY (W := 0) (rm_idc lL Z a0 hw [] x (0 : Int32) cs fv h0 n0 (Nat.le_trans Z0 K0.1) Oo Scs ncs Sfv rfv) hZ (jk hw 9 rfl) (jk hw 5 rfl) (by decide) (by decide) (own_EW hw) CH0.1 own_y0) (g := (mkF mM 19 ll2 [(.int (0 : Int32)), (.int x)])) rfl (by rw [hml]; rfl) (argsL := [(.int x), (.int (0 : Int32))]) (rest := []) (lenOf own_pd15 rfl) rfl (by show 2 * 0 + _ ≤ _; exact Nat.le_of_eq rfl) (hC e32_12.2.2.2) (fun _ _ => ⟨rfl, p2__0, (by decide : 0 + 2 ≤ _), (by decide : 0 + 268 ≤ _)⟩)
    dsimp only [Pt.U, Pt.locs, Pt.cells, Pt.slots] at Xa4_ hSa4_ hga4_ l4_ y4_ z4_ st4_ hQ4_ hC4_
    subst l4_ y4_ z4_
    obtain ⟨X4_, hS4_, hZ, hown⟩ := rebS hS0 (own_hk p2__0 hk0) Xa4_ hSa4_ hga4_ hZ hown
    obtain ⟨rfl, N4_q, p4__0⟩ := hQ4_
    have N4_ := Fr.app N2_ N4_q
    have fc5_ := Oo.keep p4__0 all0
    have K4_ := K0.trans p4__0 all0
    have CH4_ := CH0.trans hC4_
    have hk4_ : T4_.heap.size ≤ T4_.heap.size := Nat.le_refl _
    refine own_fin (fun tT kK => st4_.trans kK) ?_
    refine jg T4_ mM 24 ll2 [(.int (0 : Int32)), (.int y), (.int (own_idc x (0 : Int32)))] (fun tT kK => ?_) ?_
    · refine XS.iloadN X4_.here hx rfl (hC e32_22.1) rfl ?_
      refine XS.iconst X4_.here hx rfl (hC e32_22.2.1) ?_
      exact kK
    obtain ⟨_, _, ⟨T6_, L6_, k6_, n6_⟩, -, Xa6_, hSa6_, hga6_, ⟨Lc6_, hQ6_, l6_, y6_, z6_, hC6_⟩, st6_⟩ := callSS X4_ hx (y := jy21) hown (jm hZ hw 7 rfl) (jm hZ hw 8 rfl) (jm hZ hw 5 rfl) (jm hZ hw 9 rfl) (by decide) (own_backSY (W := 1) (rm_idc lL Z a0 hw [] y (0 : Int32) cs fv T4_.heap n0 (Nat.le_trans Z0 K4_.1) fc5_ Scs ncs Sfv rfv) hZ (jk hw 9 rfl) (jk hw 5 rfl) (by decide) (by decide) (own_EW hw) CH4_.1 own_y0) (g := (mkF mM 24 ll2 [(.int (0 : Int32)), (.int y), (.int (own_idc x (0 : Int32)))])) rfl (by rw [hml]; rfl) (argsL := [(.int y), (.int (0 : Int32))]) (rest := [(.int (own_idc x (0 : Int32)))]) (lenOf own_pd15 rfl) rfl (by show 2 * 0 + _ ≤ _; exact Nat.le_of_eq rfl) (hC e32_22.2.2.1) (fun _ _ => ⟨rfl, rfl, (by decide : 2 + 2 ≤ _), (by decide : 268 + 268 ≤ _)⟩)
    dsimp only [Pt.U, Pt.locs, Pt.cells, Pt.slots] at Xa6_ hSa6_ hga6_ l6_ y6_ z6_ st6_ hQ6_ hC6_
    subst l6_ y6_ z6_
    obtain ⟨X6_, hS6_, hZ, hown⟩ := rebS hS4_ (own_hk rfl hk4_) Xa6_ hSa6_ hga6_ hZ hown
    obtain ⟨rfl, N6_q, p6__0⟩ := hQ6_
    have N6_ := Fr.app N4_ N6_q
    have fc7_ := fc5_.keep p6__0 all0
    have K6_ := K4_.trans p6__0 all0
    have CH6_ := CH4_.trans hC6_
    have hk6_ : T6_.heap.size ≤ T6_.heap.size := Nat.le_refl _
    refine own_fin (fun tT kK => st6_.trans kK) ?_
    by_cases hc27_8_ : (own_idc x (0 : Int32)) = (own_idc y (0 : Int32))
    · refine jg T6_ mM 34 ll2 [(.int (1 : Int32)), (.int (own_il x))] (fun tT kK => ?_) ?_
      · refine XS.icmpYes X6_.here hx rfl (pc0 := 27) (pc' := 32) rfl (hC e32_22.2.2.2) rfl (teq (hc27_8_ : (own_idc x (0 : Int32)) = (own_idc y (0 : Int32)))).1 (by decide) (by decide) ?_
        refine XS.iloadN X6_.here hx rfl (hC e32_32.1) rfl ?_
        refine XS.iconst X6_.here hx rfl (hC e32_32.2.1) ?_
        exact kK
      by_cases hc34_9_ : (own_il x) = (1 : Int32)
      · refine jg T6_ mM 55 ll2 [(.int (1 : Int32))] (fun tT kK => ?_) ?_
        · refine XS.icmpYes X6_.here hx rfl (pc0 := 34) (pc' := 50) rfl (hC e32_32.2.2.1) rfl (teq (hc34_9_ : (own_il x) = (1 : Int32))).1 (by decide) (by decide) ?_
          refine XS.iconst X6_.here hx rfl (hC e32_32.2.2.2) ?_
          refine XS.goto X6_.here hx rfl (pc0 := 51) (pc' := 55) rfl (hC e32_51.1) (by decide) (by decide) ?_
          exact kK
        obtain ⟨fs, hr, hrun, hended, hE1, hE2, hE3, hE4⟩ := X6_.leaveW hS6_ (own_hk rfl hk6_) (v := some (.int (1 : Int32))) (fun h => by rw [Bd.returns] at h; cases h)
        refine ⟨_, _, ?_, hrun, hended, _, _, rfl, ?_, own_CHe (T := T6_) (vm1 := T6_.vm) hh rfl (CH6_.trans (CHv.at X6_ hZ (own_EW hw) CH6_.1)), hE1, hE2, hE3, hE4.mono (by decide) (by decide)⟩
        · show Steps pP.tables eE below (T6_.setTop (mkF mM 55 ll2 [(.int (1 : Int32))])) _
          exact retN X6_ hx (t := .boolean) Bd.returns (by simp) (hC e32_51.2.1) hr
        · show Q_rm_iq Z x y cs fv h0 n0 _ T6_.heap _
          exact ⟨by rw [own_iv, if_pos hc12_3_, if_pos hc27_8_, if_pos hc34_9_], N6_, K6_⟩
      · refine jg T6_ mM 39 ll2 [(.int (1 : Int32)), (.int x)] (fun tT kK => ?_) ?_
        · refine XS.icmpNo X6_.here hx rfl (hC e32_32.2.2.1) rfl (feq (hc34_9_ : ¬ ((own_il x) = (1 : Int32)))).1 ?_
          refine XS.iloadN X6_.here hx rfl (hC e32_51.2.2.1) rfl ?_
          refine XS.iconst X6_.here hx rfl (hC e32_51.2.2.2) ?_
          exact kK
        obtain ⟨_, _, ⟨T10_, L10_, k10_, n10_⟩, -, Xa10_, hSa10_, hga10_, ⟨Lc10_, hQ10_, l10_, y10_, z10_, hC10_⟩, st10_⟩ := callSS X6_ hx (y := jy21) hown (jm hZ hw 7 rfl) (jm hZ hw 8 rfl) (jm hZ hw 5 rfl) (jm hZ hw 9 rfl) (by decide) (own_backSY (W := 0) (rm_idc lL Z a0 hw [] x (1 : Int32) cs fv T6_.heap n0 (Nat.le_trans Z0 K6_.1) fc7_ Scs ncs Sfv rfv) hZ (jk hw 9 rfl) (jk hw 5 rfl) (by decide) (by decide) (own_EW hw) CH6_.1 own_y0) (g := (mkF mM 39 ll2 [(.int (1 : Int32)), (.int x)])) rfl (by rw [hml]; rfl) (argsL := [(.int x), (.int (1 : Int32))]) (rest := []) (lenOf own_pd15 rfl) rfl (by show 2 * 0 + _ ≤ _; exact Nat.le_of_eq rfl) (hC e32_39.1) (fun _ _ => ⟨rfl, rfl, (by decide : 4 + 2 ≤ _), (by decide : 536 + 268 ≤ _)⟩)
        dsimp only [Pt.U, Pt.locs, Pt.cells, Pt.slots] at Xa10_ hSa10_ hga10_ l10_ y10_ z10_ st10_ hQ10_ hC10_
        subst l10_ y10_ z10_
        obtain ⟨X10_, hS10_, hZ, hown⟩ := rebS hS6_ (own_hk rfl hk6_) Xa10_ hSa10_ hga10_ hZ hown
        obtain ⟨rfl, N10_q, p10__0⟩ := hQ10_
        have N10_ := Fr.app N6_ N10_q
        have fc11_ := fc7_.keep p10__0 all0
        have K10_ := K6_.trans p10__0 all0
        have CH10_ := CH6_.trans hC10_
        have hk10_ : T10_.heap.size ≤ T10_.heap.size := Nat.le_refl _
        refine own_fin (fun tT kK => st10_.trans kK) ?_
        refine jg T10_ mM 44 ll2 [(.int (1 : Int32)), (.int y), (.int (own_idc x (1 : Int32)))] (fun tT kK => ?_) ?_
        · refine XS.iloadN X10_.here hx rfl (hC e32_39.2.1) rfl ?_
          refine XS.iconst X10_.here hx rfl (hC e32_39.2.2.1) ?_
          exact kK
        obtain ⟨_, _, ⟨T12_, L12_, k12_, n12_⟩, -, Xa12_, hSa12_, hga12_, ⟨Lc12_, hQ12_, l12_, y12_, z12_, hC12_⟩, st12_⟩ := callSS X10_ hx (y := jy21) hown (jm hZ hw 7 rfl) (jm hZ hw 8 rfl) (jm hZ hw 5 rfl) (jm hZ hw 9 rfl) (by decide) (own_backSY (W := 1) (rm_idc lL Z a0 hw [] y (1 : Int32) cs fv T10_.heap n0 (Nat.le_trans Z0 K10_.1) fc11_ Scs ncs Sfv rfv) hZ (jk hw 9 rfl) (jk hw 5 rfl) (by decide) (by decide) (own_EW hw) CH10_.1 own_y0) (g := (mkF mM 44 ll2 [(.int (1 : Int32)), (.int y), (.int (own_idc x (1 : Int32)))])) rfl (by rw [hml]; rfl) (argsL := [(.int y), (.int (1 : Int32))]) (rest := [(.int (own_idc x (1 : Int32)))]) (lenOf own_pd15 rfl) rfl (by show 2 * 0 + _ ≤ _; exact Nat.le_of_eq rfl) (hC e32_39.2.2.2) (fun _ _ => ⟨rfl, rfl, (by decide : 6 + 2 ≤ _), (by decide : 804 + 268 ≤ _)⟩)
        dsimp only [Pt.U, Pt.locs, Pt.cells, Pt.slots] at Xa12_ hSa12_ hga12_ l12_ y12_ z12_ st12_ hQ12_ hC12_
        subst l12_ y12_ z12_
        obtain ⟨X12_, hS12_, hZ, hown⟩ := rebS hS10_ (own_hk rfl hk10_) Xa12_ hSa12_ hga12_ hZ hown
        obtain ⟨rfl, N12_q, p12__0⟩ := hQ12_
        have N12_ := Fr.app N10_ N12_q
        have K12_ := K10_.trans p12__0 all0
        have CH12_ := CH10_.trans hC12_
        have hk12_ : T12_.heap.size ≤ T12_.heap.size := Nat.le_refl _
        refine own_fin (fun tT kK => st12_.trans kK) ?_
        by_cases hc47_14_ : (own_idc x (1 : Int32)) = (own_idc y (1 : Int32))
        · refine jg T12_ mM 55 ll2 [(.int (1 : Int32))] (fun tT kK => ?_) ?_
          · refine XS.icmpNo X12_.here hx rfl (hC e32_47.1) rfl (teq (hc47_14_ : (own_idc x (1 : Int32)) = (own_idc y (1 : Int32)))).2 ?_
            refine XS.iconst X12_.here hx rfl (hC e32_32.2.2.2) ?_
            refine XS.goto X12_.here hx rfl (pc0 := 51) (pc' := 55) rfl (hC e32_51.1) (by decide) (by decide) ?_
            exact kK
          obtain ⟨fs, hr, hrun, hended, hE1, hE2, hE3, hE4⟩ := X12_.leaveW hS12_ (own_hk rfl hk12_) (v := some (.int (1 : Int32))) (fun h => by rw [Bd.returns] at h; cases h)
          refine ⟨_, _, ?_, hrun, hended, _, _, rfl, ?_, own_CHe (T := T12_) (vm1 := T12_.vm) hh rfl (CH12_.trans (CHv.at X12_ hZ (own_EW hw) CH12_.1)), hE1, hE2, hE3, hE4.mono (by decide) (by decide)⟩
          · show Steps pP.tables eE below (T12_.setTop (mkF mM 55 ll2 [(.int (1 : Int32))])) _
            exact retN X12_ hx (t := .boolean) Bd.returns (by simp) (hC e32_51.2.1) hr
          · show Q_rm_iq Z x y cs fv h0 n0 _ T12_.heap _
            exact ⟨by rw [own_iv, if_pos hc12_3_, if_pos hc27_8_, if_neg hc34_9_, if_pos hc47_14_], N12_, K12_⟩
        · refine jg T12_ mM 55 ll2 [(.int (0 : Int32))] (fun tT kK => ?_) ?_
          · refine XS.icmpYes X12_.here hx rfl (pc0 := 47) (pc' := 54) rfl (hC e32_47.1) rfl (feq (hc47_14_ : ¬ ((own_idc x (1 : Int32)) = (own_idc y (1 : Int32))))).2 (by decide) (by decide) ?_
            refine XS.iconst X12_.here hx rfl (hC e32_47.2.1) ?_
            exact kK
          obtain ⟨fs, hr, hrun, hended, hE1, hE2, hE3, hE4⟩ := X12_.leaveW hS12_ (own_hk rfl hk12_) (v := some (.int (0 : Int32))) (fun h => by rw [Bd.returns] at h; cases h)
          refine ⟨_, _, ?_, hrun, hended, _, _, rfl, ?_, own_CHe (T := T12_) (vm1 := T12_.vm) hh rfl (CH12_.trans (CHv.at X12_ hZ (own_EW hw) CH12_.1)), hE1, hE2, hE3, hE4.mono (by decide) (by decide)⟩
          · show Steps pP.tables eE below (T12_.setTop (mkF mM 55 ll2 [(.int (0 : Int32))])) _
            exact retN X12_ hx (t := .boolean) Bd.returns (by simp) (hC e32_51.2.1) hr
          · show Q_rm_iq Z x y cs fv h0 n0 _ T12_.heap _
            exact ⟨by rw [own_iv, if_pos hc12_3_, if_pos hc27_8_, if_neg hc34_9_, if_neg hc47_14_], N12_, K12_⟩
    · refine jg T6_ mM 31 ll2 [(.int (0 : Int32))] (fun tT kK => ?_) ?_
      · refine XS.icmpNo X6_.here hx rfl (hC e32_22.2.2.2) rfl (feq (hc27_8_ : ¬ ((own_idc x (0 : Int32)) = (own_idc y (0 : Int32))))).1 ?_
        refine XS.iconst X6_.here hx rfl (hC e32_47.2.2.1) ?_
        exact kK
      obtain ⟨fs, hr, hrun, hended, hE1, hE2, hE3, hE4⟩ := X6_.leaveW hS6_ (own_hk rfl hk6_) (v := some (.int (0 : Int32))) (fun h => by rw [Bd.returns] at h; cases h)
      refine ⟨_, _, ?_, hrun, hended, _, _, rfl, ?_, own_CHe (T := T6_) (vm1 := T6_.vm) hh rfl (CH6_.trans (CHv.at X6_ hZ (own_EW hw) CH6_.1)), hE1, hE2, hE3, hE4.mono (by decide) (by decide)⟩
      · show Steps pP.tables eE below (T6_.setTop (mkF mM 31 ll2 [(.int (0 : Int32))])) _
        exact retN X6_ hx (t := .boolean) Bd.returns (by simp) (hC e32_47.2.2.2) hr
      · show Q_rm_iq Z x y cs fv h0 n0 _ T6_.heap _
        exact ⟨by rw [own_iv, if_pos hc12_3_, if_neg hc27_8_], N6_, K6_⟩
  · refine jg T2_ mM 16 ll2 [(.int (0 : Int32))] (fun tT kK => ?_) ?_
    · refine XS.icmpNo X2_.here hx rfl (hC e32_12.1) rfl (feq (hc12_3_ : ¬ ((own_il x) = (own_il y)))).1 ?_
      refine XS.iconst X2_.here hx rfl (hC e32_15.1) ?_
      exact kK
    obtain ⟨fs, hr, hrun, hended, hE1, hE2, hE3, hE4⟩ := X2_.leaveW hS0 (own_hk p2__0 hk0) (v := some (.int (0 : Int32))) (fun h => by rw [Bd.returns] at h; cases h)
    refine ⟨_, _, ?_, hrun, hended, _, _, rfl, ?_, own_CHe (T := T2_) (vm1 := T2_.vm) hh p2__0 (CH0.trans (CHv.at X2_ hZ (own_EW hw) CH0.1)), hE1, hE2, hE3, hE4.mono (by decide) (by decide)⟩
    · show Steps pP.tables eE below (T2_.setTop (mkF mM 16 ll2 [(.int (0 : Int32))])) _
      exact retN X2_ hx (t := .boolean) Bd.returns (by simp) (hC e32_15.2) hr
    · show Q_rm_iq Z x y cs fv h0 n0 _ T2_.heap _
      rw [p2__0]
      exact ⟨by rw [own_iv, if_neg hc12_3_], N2_, K0⟩
theorem e37_0 : jD39 0 (.iload_n 0, 1) ∧ jD39 1 (.invokestatic 28, 3) ∧ jD39 4 (.istore_n 2, 1) ∧ jD39 5 (.iload_n 1, 1) := by decide +kernel
theorem e37_6 : jD39 6 (.invokestatic 28, 3) ∧ jD39 9 (.istore_n 3, 1) ∧ jD39 10 (.iload_n 2, 1) ∧ jD39 11 (.iload_n 3, 1) := by decide +kernel
theorem e37_12 : jD39 12 (.if_icmp .eq 5, 3) ∧ jD39 17 (.iload_n 2, 1) ∧ jD39 18 (.ifCond .ne 5, 3) ∧ jD39 21 (.iconst 1, 1) := by decide +kernel
theorem e37_22 : jD39 22 (.ireturn, 1) ∧ jD39 23 (.iload_n 0, 1) ∧ jD39 24 (.iconst 0, 1) ∧ jD39 25 (.invokestatic 31, 3) := by decide +kernel
theorem e37_28 : jD39 28 (.iload_n 1, 1) ∧ jD39 29 (.iconst 0, 1) ∧ jD39 30 (.invokestatic 31, 3) ∧ jD39 33 (.if_icmp .eq 5, 3) := by decide +kernel
theorem e37_38 : jD39 38 (.iload_n 2, 1) ∧ jD39 39 (.iconst 1, 1) ∧ jD39 40 (.if_icmp .eq 16, 3) ∧ jD39 56 (.iconst 1, 1) := by decide +kernel
theorem e37_57 : jD39 57 (.goto 4, 3) ∧ jD39 61 (.ireturn, 1) ∧ jD39 43 (.iload_n 0, 1) ∧ jD39 44 (.iconst 1, 1) := by decide +kernel
theorem e37_45 : jD39 45 (.invokestatic 31, 3) ∧ jD39 48 (.iload_n 1, 1) ∧ jD39 49 (.iconst 1, 1) ∧ jD39 50 (.invokestatic 31, 3) := by decide +kernel
theorem e37_53 : jD39 53 (.if_icmp .ne 7, 3) ∧ jD39 60 (.iconst 0, 1) ∧ jD39 36 (.iconst 0, 1) ∧ jD39 37 (.ireturn, 1) := by decide +kernel
theorem e37_15 : jD39 15 (.iconst 0, 1) ∧ jD39 16 (.ireturn, 1) := by decide +kernel
theorem own_ef_rm_pq (mM : MethodId) (x0 : Int32) (x1 : Int32) : entryFrame mM #[(.int x0), (.int x1)] 4 = mkF mM 0 #[.val (.int x0), .val (.int x1), .unset, .unset] [] := by first | (simp [entryFrame, mkF, argsToLocals, Value.category]; done) | rfl
def Q_rm_pq (Z : State) (x : Int32) (y : Int32) (h0 : Heap) (n0 : Nat) (vV : Option Value) (hH : Heap) (lA : List Loc) : Prop := vV = some (.int (own_v (own_pl x) (own_pc x (0 : Int32)) (own_pc x (1 : Int32)) (own_pl y) (own_pc y (0 : Int32)) (own_pc y (1 : Int32)))) ∧ Fr n0 lA ∧ (hH = h0)
set_option maxRecDepth 65536 in
set_option maxHeartbeats 40000000 in
theorem rm_pq (lL : Launch) (Z : State) (a0 : Array Value) (hw : own_H a0 Z) (ws : List Jvm.Cond) (x : Int32) (y : Int32) (h0 : Heap) (n0 : Nat) (Z0 : n0 ≤ h0.size) :
    own_Met lL jy39 (Jvm.Cond.code jy39 method_9_code 4 (some .boolean) :: ws) jr23 #[(.int x), (.int y)] Z h0 (Q_rm_pq Z x y h0 n0) := by
  refine own_begin (plainFor_of_name own_pn_com_example_waldrapp_waldrapp_IntentEqualsPinLaw) (fun mM => own_ef_rm_pq mM x y) fun pP eE sS mM below meth cC s₁ hx hby hml hZ hown hnm hre hlk X0 e0 => ?_
  have hC := @Jvm.hb _ _ hby
  have N0 := Fr.nil n0
  have K0 := Keep.refl h0 ([] : List Addr)
  refine jg s₁ mM 1 #[vI x, vI y, vU, vU] [(.int x)] (fun tT kK => ?_) ?_
  · refine XS.iloadN X0.here hx rfl (hC e37_0.1) rfl ?_
    exact kK
  refine jc X0 hx hZ (y := jy23) hown (jk hw 71 rfl) (jk hw 72 rfl) (jk hw 5 rfl) (jk hw 73 rfl) (rm_pl lL Z a0 hw [] x h0 n0 (Nat.le_trans Z0 K0.1) ) e0 own_pd16 [(.int x)] [] (hC e37_0.2.1) rfl rfl (by rw [hml]; rfl) (by decide) 0 (Nat.le_of_eq rfl) (by decide) (by decide) (by decide : 0 + 0 ≤ _) (by decide : 0 + 0 ≤ _) fun vv1_ T1_ L1_ X1_ hQ1_ => ?_
  obtain ⟨rfl, N1_q, p1__0⟩ := hQ1_
  have N1_ := Fr.app N0 N1_q
  let ll1 : Array Slot := #[vI x, vI y, vI (own_pl x), vU]
  refine jg T1_ mM 6 ll1 [(.int y)] (fun tT kK => ?_) ?_
  · refine XS.istoreN X1_.here hx rfl (hC e37_0.2.2.1) rfl (l' := ll1) rfl ?_
    refine XS.iloadN X1_.here hx rfl (hC e37_0.2.2.2) rfl ?_
    exact kK
  refine jc X1_ hx hZ (y := jy23) hown (jk hw 71 rfl) (jk hw 72 rfl) (jk hw 5 rfl) (jk hw 73 rfl) (rm_pl lL Z a0 hw [] y h0 n0 (Nat.le_trans Z0 K0.1) ) p1__0 own_pd16 [(.int y)] [] (hC e37_6.1) rfl rfl (by rw [hml]; rfl) (by decide) 0 (Nat.le_of_eq rfl) (by decide) (by decide) (by decide : 0 + 0 ≤ _) (by decide : 0 + 0 ≤ _) fun vv2_ T2_ L2_ X2_ hQ2_ => ?_
  obtain ⟨rfl, N2_q, p2__0⟩ := hQ2_
  have N2_ := Fr.app N1_ N2_q
  let ll2 : Array Slot := #[vI x, vI y, vI (own_pl x), vI (own_pl y)]
  refine jg T2_ mM 12 ll2 [(.int (own_pl y)), (.int (own_pl x))] (fun tT kK => ?_) ?_
  · refine XS.istoreN X2_.here hx rfl (hC e37_6.2.1) rfl (l' := ll2) rfl ?_
    refine XS.iloadN X2_.here hx rfl (hC e37_6.2.2.1) rfl ?_
    refine XS.iloadN X2_.here hx rfl (hC e37_6.2.2.2) rfl ?_
    exact kK
  by_cases hc12_3_ : (own_pl x) = (own_pl y)
  · refine jg T2_ mM 18 ll2 [(.int (own_pl x))] (fun tT kK => ?_) ?_
    · refine XS.icmpYes X2_.here hx rfl (pc0 := 12) (pc' := 17) rfl (hC e37_12.1) rfl (teq (hc12_3_ : (own_pl x) = (own_pl y))).1 (by decide) (by decide) ?_
      refine XS.iloadN X2_.here hx rfl (hC e37_12.2.1) rfl ?_
      exact kK
    by_cases hc18_4_ : (own_pl x) = (0 : Int32)
    · refine jg T2_ mM 22 ll2 [(.int (1 : Int32))] (fun tT kK => ?_) ?_
      · refine XS.ifNo X2_.here hx rfl (hC e37_12.2.2.1) rfl ((if0 _ _).trans (teq (hc18_4_ : (own_pl x) = (0 : Int32))).2) ?_
        refine XS.iconst X2_.here hx rfl (hC e37_12.2.2.2) ?_
        exact kK
      exact own_rL X2_ hx hlk hre (by simp) (hC e37_22.1) (w := (.int (1 : Int32))) rfl p2__0 (by decide) (by decide) ⟨by unfold own_v; rw [if_pos hc12_3_, if_pos hc18_4_], N2_, rfl⟩
    · refine jg T2_ mM 25 ll2 [(.int (0 : Int32)), (.int x)] (fun tT kK => ?_) ?_
      · refine XS.ifYes X2_.here hx rfl (pc0 := 18) (pc' := 23) rfl (hC e37_12.2.2.1) rfl ((if0 _ _).trans (feq (hc18_4_ : ¬ ((own_pl x) = (0 : Int32)))).2) (by decide) (by decide) ?_
        refine XS.iloadN X2_.here hx rfl (hC e37_22.2.1) rfl ?_
        refine XS.iconst X2_.here hx rfl (hC e37_22.2.2.1) ?_
        exact kK
      refine jc X2_ hx hZ (y := jy24) hown (jk hw 176 rfl) (jk hw 177 rfl) (jk hw 5 rfl) (jk hw 178 rfl) (rm_pc lL Z a0 hw [] x (0 : Int32) h0 n0 (Nat.le_trans Z0 K0.1) ) p2__0 own_pd15 [(.int x), (.int (0 : Int32))] [] (hC e37_22.2.2.2) rfl rfl (by rw [hml]; rfl) (by decide) 0 (Nat.le_of_eq rfl) (by decide) (by decide) (by decide : 0 + 0 ≤ _) (by decide : 0 + 0 ≤ _) fun vv5_ T5_ L5_ X5_ hQ5_ => ?_
      obtain ⟨rfl, N5_q, p5__0⟩ := hQ5_
      have N5_ := Fr.app N2_ N5_q
      refine jg T5_ mM 30 ll2 [(.int (0 : Int32)), (.int y), (.int (own_pc x (0 : Int32)))] (fun tT kK => ?_) ?_
      · refine XS.iloadN X5_.here hx rfl (hC e37_28.1) rfl ?_
        refine XS.iconst X5_.here hx rfl (hC e37_28.2.1) ?_
        exact kK
      refine jc X5_ hx hZ (y := jy24) hown (jk hw 176 rfl) (jk hw 177 rfl) (jk hw 5 rfl) (jk hw 178 rfl) (rm_pc lL Z a0 hw [] y (0 : Int32) h0 n0 (Nat.le_trans Z0 K0.1) ) p5__0 own_pd15 [(.int y), (.int (0 : Int32))] [(.int (own_pc x (0 : Int32)))] (hC e37_28.2.2.1) rfl rfl (by rw [hml]; rfl) (by decide) 1 (Nat.le_of_eq rfl) (by decide) (by decide) (by decide : 0 + 0 ≤ _) (by decide : 0 + 0 ≤ _) fun vv6_ T6_ L6_ X6_ hQ6_ => ?_
      obtain ⟨rfl, N6_q, p6__0⟩ := hQ6_
      have N6_ := Fr.app N5_ N6_q
      by_cases hc33_7_ : (own_pc x (0 : Int32)) = (own_pc y (0 : Int32))
      · refine jg T6_ mM 40 ll2 [(.int (1 : Int32)), (.int (own_pl x))] (fun tT kK => ?_) ?_
        · refine XS.icmpYes X6_.here hx rfl (pc0 := 33) (pc' := 38) rfl (hC e37_28.2.2.2) rfl (teq (hc33_7_ : (own_pc x (0 : Int32)) = (own_pc y (0 : Int32)))).1 (by decide) (by decide) ?_
          refine XS.iloadN X6_.here hx rfl (hC e37_38.1) rfl ?_
          refine XS.iconst X6_.here hx rfl (hC e37_38.2.1) ?_
          exact kK
        by_cases hc40_8_ : (own_pl x) = (1 : Int32)
        · refine jg T6_ mM 61 ll2 [(.int (1 : Int32))] (fun tT kK => ?_) ?_
          · refine XS.icmpYes X6_.here hx rfl (pc0 := 40) (pc' := 56) rfl (hC e37_38.2.2.1) rfl (teq (hc40_8_ : (own_pl x) = (1 : Int32))).1 (by decide) (by decide) ?_
            refine XS.iconst X6_.here hx rfl (hC e37_38.2.2.2) ?_
            refine XS.goto X6_.here hx rfl (pc0 := 57) (pc' := 61) rfl (hC e37_57.1) (by decide) (by decide) ?_
            exact kK
          exact own_rL X6_ hx hlk hre (by simp) (hC e37_57.2.1) (w := (.int (1 : Int32))) rfl p6__0 (by decide) (by decide) ⟨by unfold own_v; rw [if_pos hc12_3_, if_neg hc18_4_, if_pos hc33_7_, if_pos hc40_8_], N6_, rfl⟩
        · refine jg T6_ mM 45 ll2 [(.int (1 : Int32)), (.int x)] (fun tT kK => ?_) ?_
          · refine XS.icmpNo X6_.here hx rfl (hC e37_38.2.2.1) rfl (feq (hc40_8_ : ¬ ((own_pl x) = (1 : Int32)))).1 ?_
            refine XS.iloadN X6_.here hx rfl (hC e37_57.2.2.1) rfl ?_
            refine XS.iconst X6_.here hx rfl (hC e37_57.2.2.2) ?_
            exact kK
          refine jc X6_ hx hZ (y := jy24) hown (jk hw 176 rfl) (jk hw 177 rfl) (jk hw 5 rfl) (jk hw 178 rfl) (rm_pc lL Z a0 hw [] x (1 : Int32) h0 n0 (Nat.le_trans Z0 K0.1) ) p6__0 own_pd15 [(.int x), (.int (1 : Int32))] [] (hC e37_45.1) rfl rfl (by rw [hml]; rfl) (by decide) 0 (Nat.le_of_eq rfl) (by decide) (by decide) (by decide : 0 + 0 ≤ _) (by decide : 0 + 0 ≤ _) fun vv9_ T9_ L9_ X9_ hQ9_ => ?_
          obtain ⟨rfl, N9_q, p9__0⟩ := hQ9_
          have N9_ := Fr.app N6_ N9_q
          refine jg T9_ mM 50 ll2 [(.int (1 : Int32)), (.int y), (.int (own_pc x (1 : Int32)))] (fun tT kK => ?_) ?_
          · refine XS.iloadN X9_.here hx rfl (hC e37_45.2.1) rfl ?_
            refine XS.iconst X9_.here hx rfl (hC e37_45.2.2.1) ?_
            exact kK
          refine jc X9_ hx hZ (y := jy24) hown (jk hw 176 rfl) (jk hw 177 rfl) (jk hw 5 rfl) (jk hw 178 rfl) (rm_pc lL Z a0 hw [] y (1 : Int32) h0 n0 (Nat.le_trans Z0 K0.1) ) p9__0 own_pd15 [(.int y), (.int (1 : Int32))] [(.int (own_pc x (1 : Int32)))] (hC e37_45.2.2.2) rfl rfl (by rw [hml]; rfl) (by decide) 1 (Nat.le_of_eq rfl) (by decide) (by decide) (by decide : 0 + 0 ≤ _) (by decide : 0 + 0 ≤ _) fun vv10_ T10_ L10_ X10_ hQ10_ => ?_
          obtain ⟨rfl, N10_q, p10__0⟩ := hQ10_
          have N10_ := Fr.app N9_ N10_q
          by_cases hc53_11_ : (own_pc x (1 : Int32)) = (own_pc y (1 : Int32))
          · refine jg T10_ mM 61 ll2 [(.int (1 : Int32))] (fun tT kK => ?_) ?_
            · refine XS.icmpNo X10_.here hx rfl (hC e37_53.1) rfl (teq (hc53_11_ : (own_pc x (1 : Int32)) = (own_pc y (1 : Int32)))).2 ?_
              refine XS.iconst X10_.here hx rfl (hC e37_38.2.2.2) ?_
              refine XS.goto X10_.here hx rfl (pc0 := 57) (pc' := 61) rfl (hC e37_57.1) (by decide) (by decide) ?_
              exact kK
            exact own_rL X10_ hx hlk hre (by simp) (hC e37_57.2.1) (w := (.int (1 : Int32))) rfl p10__0 (by decide) (by decide) ⟨by unfold own_v; rw [if_pos hc12_3_, if_neg hc18_4_, if_pos hc33_7_, if_neg hc40_8_, if_pos hc53_11_], N10_, rfl⟩
          · refine jg T10_ mM 61 ll2 [(.int (0 : Int32))] (fun tT kK => ?_) ?_
            · refine XS.icmpYes X10_.here hx rfl (pc0 := 53) (pc' := 60) rfl (hC e37_53.1) rfl (feq (hc53_11_ : ¬ ((own_pc x (1 : Int32)) = (own_pc y (1 : Int32))))).2 (by decide) (by decide) ?_
              refine XS.iconst X10_.here hx rfl (hC e37_53.2.1) ?_
              exact kK
            exact own_rL X10_ hx hlk hre (by simp) (hC e37_57.2.1) (w := (.int (0 : Int32))) rfl p10__0 (by decide) (by decide) ⟨by unfold own_v; rw [if_pos hc12_3_, if_neg hc18_4_, if_pos hc33_7_, if_neg hc40_8_, if_neg hc53_11_], N10_, rfl⟩
      · refine jg T6_ mM 37 ll2 [(.int (0 : Int32))] (fun tT kK => ?_) ?_
        · refine XS.icmpNo X6_.here hx rfl (hC e37_28.2.2.2) rfl (feq (hc33_7_ : ¬ ((own_pc x (0 : Int32)) = (own_pc y (0 : Int32))))).1 ?_
          refine XS.iconst X6_.here hx rfl (hC e37_53.2.2.1) ?_
          exact kK
        exact own_rL X6_ hx hlk hre (by simp) (hC e37_53.2.2.2) (w := (.int (0 : Int32))) rfl p6__0 (by decide) (by decide) ⟨by unfold own_v; rw [if_pos hc12_3_, if_neg hc18_4_, if_neg hc33_7_], N6_, rfl⟩
  · refine jg T2_ mM 16 ll2 [(.int (0 : Int32))] (fun tT kK => ?_) ?_
    · refine XS.icmpNo X2_.here hx rfl (hC e37_12.1) rfl (feq (hc12_3_ : ¬ ((own_pl x) = (own_pl y)))).1 ?_
      refine XS.iconst X2_.here hx rfl (hC e37_15.1) ?_
      exact kK
    exact own_rL X2_ hx hlk hre (by simp) (hC e37_15.2) (w := (.int (0 : Int32))) rfl p2__0 (by decide) (by decide) ⟨by unfold own_v; rw [if_neg hc12_3_], N2_, rfl⟩
theorem own_okz {z : Int32} {f : Int32 → Int32} {x : Int32} (A : own_is z f (own_il x) (own_idc x (0 : Int32)) (own_idc x (1 : Int32))) : own_okc (own_ch (f (0 : Int32))) = (1 : Int32) ∧ (z = (2 : Int32) → own_okc (own_ch (f (1 : Int32))) = (1 : Int32)) := by
  obtain ⟨hz, A0, A1⟩ := A
  have p : 0 < (own_il x).toInt := by rcases own_il12 x with h | h <;> (rw [h]; decide)
  constructor
  · rw [A0 p, (own_idok x _).2]; exact (own_idok x _).1
  · intro q
    rw [A1 (by rw [← hz, q]; decide), (own_idok x _).2]; exact (own_idok x _).1
theorem own_pd23 : parseMethodDescriptor "(I)Ljava/lang/String;" = some ⟨[.int], some (.object "java/lang/String")⟩ := by decide +kernel
theorem own_pd24 : parseMethodDescriptor "(Ljava/lang/String;Ljava/lang/String;)V" = some ⟨[(.object "java/lang/String"), (.object "java/lang/String")], none⟩ := by decide +kernel
theorem own_pd25 : parseMethodDescriptor "(II)Z" = some ⟨[.int, .int], some .boolean⟩ := by decide +kernel
theorem own_pd26 : parseMethodDescriptor "()Ljava/lang/String;" = some ⟨[], some (.object "java/lang/String")⟩ := by decide +kernel
theorem own_ef_rm0 (mM : MethodId) (x0 : Int32) (x1 : Int32) (x2 : Int32) (x3 : Int32) (x4 : Int32) : entryFrame mM #[(.int x0), (.int x1), (.int x2), (.int x3), (.int x4)] maxLocals = mkF mM 0 #[.val (.int x0), .val (.int x1), .val (.int x2), .val (.int x3), .val (.int x4), .unset, .unset, .unset, .unset, .unset] [] := by first | (simp [entryFrame, mkF, argsToLocals, Value.category, maxLocals]; done) | rfl
def Q_rm0 (Z : State) (p1 : Int32) (p2 : Int32) (p3 : Int32) (p4 : Int32) (p5 : Int32) (cs : Int32) (fv : Value) (em : Addr) (h0 : Heap) (n0 : Nat) (vV : Option Value) (hH : Heap) (lA : List Loc) : Prop := vV = some (.int (1 : Int32)) ∧ Fr n0 lA
set_option maxRecDepth 65536 in
set_option maxHeartbeats 40000000 in
theorem rm0 (lL : Launch) (Z : State) (a0 : Array Value) (hw : own_H a0 Z) (ws : List Jvm.Cond) (p1 : Int32) (p2 : Int32) (p3 : Int32) (p4 : Int32) (p5 : Int32) (cs : Int32) (fv : Value) (em : Addr) (h0 : Heap) (n0 : Nat) (Z0 : n0 ≤ h0.size) (Oo : Old Z n0 h0) (Scs : Sta Z Z.heap "java/lang/String" "COMPACT_STRINGS" "Z" (.int cs)) (ncs : ¬ (cs = (0 : Int32))) (Sfv : Sta Z Z.heap "jdk/internal/util/Preconditions" "SIOOBE_FORMATTER" "Ljava/util/function/BiFunction;" fv) (rfv : fv.isRef = true) (Se : Sta Z Z.heap "java/util/Optional" "EMPTY" "Ljava/util/Optional;" (.ref em)) (lz0 : jE2 Z Z.heap em) (lz1 : jF2 Z Z.heap em .null) :
    MetFree lL x (head1 (Jvm.Cond.code x code maxLocals ret :: ws) room_1) (fun aA uU => aA = #[(.int p1), (.int p2), (.int p3), (.int p4), (.int p5)] ∧ Z.Warmed39 uU.vm ∧ uU.heap = h0 ∧ CHv Z own_EL uU.vm h0 ∧ ∀ x ∈ ([] : List Addr), Safe Z own_EL uU.vm h0 x) (fun _ _ _ _ _ => True) (fun _ uU oO uU' => ∃ vV lA, oO = .returned vV ∧ Q_rm0 Z p1 p2 p3 p4 p5 cs fv em h0 n0 vV uU'.heap lA ∧ CHr Z own_EL uU.vm uU.heap uU'.vm uU'.heap ∧ ReturnedEndW uU oO uU' lA room_1.cells room_1.slots) := by
  refine MetFree.of_bodySF (plainFor_of_name own_pn_com_example_waldrapp_waldrapp_IntentEqualsPinLaw) hisR ?_
  intro pP eE sS mM args below meth cC s₁ Bd hml0 hP hK
  obtain ⟨rfl, hZ, hh, hC0, hY0⟩ := hP
  have hx := Bd.exec
  have hby := Bd.bytes
  have hC := @Jvm.hb _ _ hby
  have hml : cC.maxLocals = 10 := hml0
  have hown : sS.vm.findClass "com/example/waldrapp/waldrapp/IntentEqualsPinLaw" = some mM.cls := findClass_of_methodNamed Bd.named
  have hnm := (name_of_methodNamed Bd.named Bd.method).1
  have X0 : Stand pP lL eE room_1 (sS.setVm sS.vm) mM #[(.int p1), (.int p2), (.int p3), (.int p4), (.int p5)] below meth cC s₁ [] 0 0 := Stand.of_body Bd
  have hS0 : sS.Since sS.vm 0 := (State.WarmedH.refl sS).since 0
  have hk0 : 0 ≤ h0.size := Nat.zero_le _
  have CH0 : CHr Z own_EL sS.vm h0 sS.vm h0 := CHr.refl hC0
  have e0 : s₁.heap = h0 := by rw [← hh, Bd.state]; rfl
  have N0 := Fr.nil n0
  have K0 := Keep.refl h0 ([] : List Addr)
  show own_Fin pP eE below (fun tT oO => ∃ vV lA, oO = .returned vV ∧ Q_rm0 Z p1 p2 p3 p4 p5 cs fv em h0 n0 vV tT.heap lA ∧ CHr Z own_EL sS.vm sS.heap tT.vm tT.heap ∧ ReturnedEndW sS oO tT lA room_1.cells room_1.slots) (s₁.setTop (entryFrame mM #[(.int p1), (.int p2), (.int p3), (.int p4), (.int p5)] maxLocals))
  refine own_fin (b := s₁.setTop (mkF mM 0 #[.val (.int p1), .val (.int p2), .val (.int p3), .val (.int p4), .val (.int p5), .unset, .unset, .unset, .unset, .unset] [])) (fun tT kK => castTop (own_ef_rm0 mM p1 p2 p3 p4 p5) kK) ?_
  have ml0 := lz0.ext Oo.2
  have ml1 := lz1.ext Oo.2
  let ll1 : Array Slot := #[vI p1, vI p2, vI p3, vI p4, vI p5, vU, vU, vU, vU, vU]
  refine jg s₁ mM 4 ll1 [(.int (p5 &&& (1 : Int32)))] (fun tT kK => ?_) ?_
  · refine XS.iload X0.here hx rfl (hC at_0) rfl ?_
    refine XS.iconst X0.here hx rfl (hC at_2) ?_
    refine XS.iand X0.here hx rfl (hC at_3) rfl ?_
    exact kK
  obtain ⟨ib, st1_⟩ : ∃ ib : Int32, ∀ tT, Steps pP.tables eE below (s₁.setTop (mkF mM 12 #[.val (.int p1), .val (.int p2), .val (.int p3), .val (.int p4), .val (.int p5), .unset, .unset, .unset, .unset, .unset] [(.int ib)])) tT → Steps pP.tables eE below (s₁.setTop (mkF mM 4 #[.val (.int p1), .val (.int p2), .val (.int p3), .val (.int p4), .val (.int p5), .unset, .unset, .unset, .unset, .unset] [(.int (p5 &&& (1 : Int32)))])) tT := by
    by_cases hm1 : (p5 &&& (1 : Int32)) = (0 : Int32)
    · refine ⟨p3, fun tT kK => ?_⟩
      refine XS.ifYes X0.here hx rfl (pc0 := 4) (pc' := 11) rfl (hC at_4) rfl ((if0 _ _).trans (teq (hm1 : (p5 &&& (1 : Int32)) = (0 : Int32))).1) (by decide) (by decide) ?_
      refine XS.iloadN X0.here hx rfl (hC at_11) rfl ?_
      exact kK
    · refine ⟨p1, fun tT kK => ?_⟩
      refine XS.ifNo X0.here hx rfl (hC at_4) rfl ((if0 _ _).trans (feq (hm1 : ¬ ((p5 &&& (1 : Int32)) = (0 : Int32)))).1) ?_
      refine XS.iloadN X0.here hx rfl (hC at_7) rfl ?_
      refine XS.goto X0.here hx rfl (pc0 := 8) (pc' := 12) rfl (hC at_8) (by decide) (by decide) ?_
      exact kK
  refine own_fin st1_ ?_
  let ll2 : Array Slot := #[vI p1, vI p2, vI p3, vI p4, vI p5, vI ib, vU, vU, vU, vU]
  refine jg s₁ mM 18 ll2 [(.int (p5 &&& (2 : Int32)))] (fun tT kK => ?_) ?_
  · refine XS.istore X0.here hx rfl (hC at_12) rfl (l' := ll2) rfl ?_
    refine XS.iload X0.here hx rfl (hC at_14) rfl ?_
    refine XS.iconst X0.here hx rfl (hC at_16) ?_
    refine XS.iand X0.here hx rfl (hC at_17) rfl ?_
    exact kK
  obtain ⟨pb, st2_⟩ : ∃ pb : Int32, ∀ tT, Steps pP.tables eE below (s₁.setTop (mkF mM 26 #[.val (.int p1), .val (.int p2), .val (.int p3), .val (.int p4), .val (.int p5), .val (.int ib), .unset, .unset, .unset, .unset] [(.int pb)])) tT → Steps pP.tables eE below (s₁.setTop (mkF mM 18 #[.val (.int p1), .val (.int p2), .val (.int p3), .val (.int p4), .val (.int p5), .val (.int ib), .unset, .unset, .unset, .unset] [(.int (p5 &&& (2 : Int32)))])) tT := by
    by_cases hm1 : (p5 &&& (2 : Int32)) = (0 : Int32)
    · refine ⟨p4, fun tT kK => ?_⟩
      refine XS.ifYes X0.here hx rfl (pc0 := 18) (pc' := 25) rfl (hC at_18) rfl ((if0 _ _).trans (teq (hm1 : (p5 &&& (2 : Int32)) = (0 : Int32))).1) (by decide) (by decide) ?_
      refine XS.iloadN X0.here hx rfl (hC at_25) rfl ?_
      exact kK
    · refine ⟨p2, fun tT kK => ?_⟩
      refine XS.ifNo X0.here hx rfl (hC at_18) rfl ((if0 _ _).trans (feq (hm1 : ¬ ((p5 &&& (2 : Int32)) = (0 : Int32)))).1) ?_
      refine XS.iloadN X0.here hx rfl (hC at_21) rfl ?_
      refine XS.goto X0.here hx rfl (pc0 := 22) (pc' := 26) rfl (hC at_22) (by decide) (by decide) ?_
      exact kK
  refine own_fin st2_ ?_
  let ll3 : Array Slot := #[vI p1, vI p2, vI p3, vI p4, vI p5, vI ib, vI pb, vU, vU, vU]
  refine jg s₁ mM 28 ll3 [] (fun tT kK => ?_) ?_
  · refine XS.istore X0.here hx rfl (hC at_26) rfl (l' := ll3) rfl ?_
    exact kK
  obtain ⟨T3_, h3_, X3_, e3_, E3_, A3_, D3_, -, st3_⟩ := newO X0 hx hZ hown (jk hw 0 rfl) (jk hw 1 rfl) (jk hw 2 rfl) e0 (g := (mkF mM 28 ll3 [])) rfl (hC at_28) (by decide) (by decide)
  obtain ⟨b3_, g3_⟩ : ∃ z, z = h0.size := ⟨_, rfl⟩
  rw [← g3_] at A3_ D3_ st3_
  have sz_b3_ : h0.size ≤ b3_ := Nat.le_trans K0.1 (Nat.le_of_eq g3_.symm)
  have ge_b3_ : n0 ≤ b3_ := Nat.le_trans Z0 sz_b3_
  have ne4_ : em ≠ b3_ := Nat.ne_of_lt (Nat.lt_of_lt_of_le ml0.lt (Nat.le_of_eq g3_.symm))
  have fc5_ := Oo.ext E3_
  have fc6_ := ml0.ext E3_
  have fc7_ := ml1.ext E3_
  have Cs3_ : CHr Z own_EL sS.vm h0 sS.vm h3_ := CHr.ext E3_ CH0.1
  have CH3_ := CH0.trans Cs3_
  have hk3_ := Nat.le_trans hk0 Cs3_.2.1
  have K3_ := K0.ext E3_
  have F3__id : jF3 Z h3_ b3_ .null := D3_ (Or.inr (jk hw 142 rfl)) (ty := (.object "java/lang/String")) (by decide)
  have F3__payload : jF4 Z h3_ b3_ .null := D3_ (Or.inr (jk hw 144 rfl)) (ty := (.object "java/lang/String")) (by decide)
  have F3__size : jF5 Z h3_ b3_ (.int (0 : Int32)) := D3_ (Or.inr (jk hw 146 rfl)) (ty := .int) (by decide)
  refine own_fin st3_ ?_
  refine jg T3_ mM 33 ll3 [(.int p1), (.ref b3_), (.ref b3_)] (fun tT kK => ?_) ?_
  · refine XS.dup X3_.here hx rfl (hC at_31) rfl rfl ?_
    refine XS.iloadN X3_.here hx rfl (hC at_32) rfl ?_
    exact kK
  obtain ⟨_, _, ⟨T8_, L8_, k8_, n8_⟩, -, Xa8_, hSa8_, hga8_, ⟨Lc8_, hQ8_, l8_, y8_, z8_, hC8_⟩, st8_⟩ := callSS X3_ hx (y := jy25) hown (jm hZ hw 3 rfl) (jm hZ hw 4 rfl) (jm hZ hw 5 rfl) (jm hZ hw 6 rfl) (by decide) (own_backSY (W := 2) (rm_id lL Z a0 hw [] p1 cs fv h3_ n0 (Nat.le_trans Z0 K3_.1) fc5_ Scs ncs Sfv rfv) hZ (jk hw 6 rfl) (jk hw 5 rfl) (by decide) (by decide) (own_EW hw) CH3_.1 own_y0) (g := (mkF mM 33 ll3 [(.int p1), (.ref b3_), (.ref b3_)])) rfl (by rw [hml]; rfl) (argsL := [(.int p1)]) (rest := [(.ref b3_), (.ref b3_)]) (lenOf own_pd23 rfl) rfl (by show 2 * 0 + _ ≤ _; exact Nat.le_of_eq rfl) (hC at_33) (fun _ _ => ⟨rfl, e3_, (by decide : 1 + 7 ≤ _), (by decide : 3 + 544 ≤ _)⟩)
  dsimp only [Pt.U, Pt.locs, Pt.cells, Pt.slots] at Xa8_ hSa8_ hga8_ l8_ y8_ z8_ st8_ hQ8_ hC8_
  subst l8_ y8_ z8_
  obtain ⟨X8_, hS8_, hZ, hown⟩ := rebS hS0 (own_hk e3_ hk3_) Xa8_ hSa8_ hga8_ hZ hown
  obtain ⟨s'_8_, t'_8_, z'_8_, f'_8_, rfl, N8_q, p8__0, p8__1, p8__2, p8__3, p8__4, p8__5, p8__6⟩ := hQ8_
  have N8_ := Fr.app N0 N8_q
  have sz_s'_8_ : h0.size ≤ s'_8_ := Nat.le_trans K3_.1 p8__1
  have ge_s'_8_ : n0 ≤ s'_8_ := Nat.le_trans Z0 sz_s'_8_
  have ne10_ : b3_ ≠ s'_8_ := Nat.ne_of_lt (Nat.lt_of_lt_of_le A3_.lt p8__1)
  have fc11_ := fc5_.keep p8__0 all0
  have fc12_ := fc6_.keep p8__0
  have fc13_ := fc7_.keep p8__0 nin0
  have fc14_ := A3_.keep p8__0
  have fc15_ := F3__id.keep p8__0 nin0
  have fc16_ := F3__payload.keep p8__0 nin0
  have fc17_ := F3__size.keep p8__0 nin0
  have K8_ := K3_.trans p8__0 all0
  have CH8_ := CH3_.trans hC8_
  have hk8_ : T8_.heap.size ≤ T8_.heap.size := Nat.le_refl _
  refine own_fin (fun tT kK => st8_.trans kK) ?_
  refine jg T8_ mM 37 ll3 [(.int p2), (.ref s'_8_), (.ref b3_), (.ref b3_)] (fun tT kK => ?_) ?_
  · refine XS.iloadN X8_.here hx rfl (hC at_36) rfl ?_
    exact kK
  obtain ⟨_, _, ⟨T18_, L18_, k18_, n18_⟩, -, Xa18_, hSa18_, hga18_, ⟨Lc18_, hQ18_, l18_, y18_, z18_, hC18_⟩, st18_⟩ := callSS X8_ hx (y := jy26) hown (jm hZ hw 68 rfl) (jm hZ hw 69 rfl) (jm hZ hw 5 rfl) (jm hZ hw 70 rfl) (by decide) (own_backSY (W := 3) (rm_py lL Z a0 hw [] p2 cs T8_.heap n0 (Nat.le_trans Z0 K8_.1) fc11_ Scs ncs) hZ (jk hw 70 rfl) (jk hw 5 rfl) (by decide) (by decide) (own_EW hw) CH8_.1 own_y0) (g := (mkF mM 37 ll3 [(.int p2), (.ref s'_8_), (.ref b3_), (.ref b3_)])) rfl (by rw [hml]; rfl) (argsL := [(.int p2)]) (rest := [(.ref s'_8_), (.ref b3_), (.ref b3_)]) (lenOf own_pd23 rfl) rfl (by show 2 * 0 + _ ≤ _; exact Nat.le_of_eq rfl) (hC at_37) (fun _ _ => ⟨rfl, rfl, (by decide : 8 + 6 ≤ _), (by decide : 547 + 12 ≤ _)⟩)
  dsimp only [Pt.U, Pt.locs, Pt.cells, Pt.slots] at Xa18_ hSa18_ hga18_ l18_ y18_ z18_ st18_ hQ18_ hC18_
  subst l18_ y18_ z18_
  obtain ⟨X18_, hS18_, hZ, hown⟩ := rebS hS8_ (own_hk rfl hk8_) Xa18_ hSa18_ hga18_ hZ hown
  obtain ⟨s'_18_, t'_18_, z'_18_, f'_18_, rfl, N18_q, p18__0, p18__1, p18__2, p18__3, p18__4, p18__5, p18__6⟩ := hQ18_
  have N18_ := Fr.app N8_ N18_q
  have sz_s'_18_ : h0.size ≤ s'_18_ := Nat.le_trans K8_.1 p18__1
  have ge_s'_18_ : n0 ≤ s'_18_ := Nat.le_trans Z0 sz_s'_18_
  have ne20_ : b3_ ≠ s'_18_ := Nat.ne_of_lt (Nat.lt_of_lt_of_le fc14_.lt p18__1)
  have fc23_ := fc11_.keep p18__0 all0
  have fc24_ := fc12_.keep p18__0
  have fc25_ := fc13_.keep p18__0 nin0
  have fc26_ := fc14_.keep p18__0
  have fc27_ := fc15_.keep p18__0 nin0
  have fc28_ := fc16_.keep p18__0 nin0
  have fc29_ := fc17_.keep p18__0 nin0
  have fc30_ := p8__2.keep p18__0
  have fc31_ := p8__3.keep p18__0 nin0
  have fc32_ := p8__4.keep p18__0 nin0
  have fc33_ := p8__5.keep p18__0 nin0
  have K18_ := K8_.trans p18__0 all0
  have CH18_ := CH8_.trans hC18_
  have hk18_ : T18_.heap.size ≤ T18_.heap.size := Nat.le_refl _
  refine own_fin (fun tT kK => st18_.trans kK) ?_
  have sk34_ : ∀ x ∈ ([b3_] : List Addr), Safe Z own_EL T18_.vm T18_.heap x := (sfS (Safe.exa (EL := own_EL) hZ.alike fc26_ (by decide) (by decide)) sf0)
  refine own_sb X18_ hx hZ (y := jy35) rfl hown (jk hw 75 rfl) (jk hw 76 rfl) (jk hw 77 rfl) (jk hw 2 rfl) (rm_in lL Z a0 hw [] b3_ s'_8_ t'_8_ s'_18_ t'_18_ em z'_8_ z'_18_ f'_8_ f'_18_ cs fv T18_.heap n0 (Nat.le_trans Z0 K18_.1) fc23_ Scs ncs Sfv rfv Se fc25_ fc24_ fc26_ fc27_ fc28_ fc29_ fc30_ fc31_ fc32_ fc33_ p18__2 p18__3 p18__4 p18__5 ge_b3_ (by rw [p8__6.1]; exact own_il12 _) (by rw [p18__6.1]; exact own_pl012 _) (own_okz p8__6).1 (own_okz p8__6).2 (own_fdm p18__6 (own_pl012 _) (own_pn9 _ _ _ (Or.inl rfl)) (own_pn9 _ _ _ (Or.inl rfl))) (own_fdm p18__6 (own_pl012 _) (own_pn9 _ _ _ (Or.inr rfl)) (own_pn9 _ _ _ (Or.inr rfl)))) (a := b3_) rfl own_pd24 [(.ref s'_8_), (.ref s'_18_)] [(.ref b3_)] (hC at_40) rfl rfl (by rw [hml]; rfl) (by decide) 1 (Nat.le_of_eq rfl) (by decide) (by decide) (by decide : 14 + 0 ≤ _) (by decide : 559 + 0 ≤ _) fun vv35_ T35_ L35_ X35_ hQ35_ => ?_
  obtain ⟨v'_35_, rfl, N35_q, p35__0, p35__1, p35__2, p35__3, p35__4⟩ := hQ35_
  have N35_ := Fr.app N18_ N35_q
  have ne36_ : t'_8_ ≠ b3_ := (Ne.symm (own_neT fc26_ fc33_ (jk hw 1 rfl)))
  have ne37_ : t'_18_ ≠ b3_ := (Ne.symm (own_neT fc26_ p18__5 (jk hw 1 rfl)))
  have fc38_ := fc23_.keep p35__0 (allS ge_b3_ all0)
  have fc39_ := fc24_.keep p35__0
  have fc40_ := fc25_.keep p35__0 (ninS ne4_ nin0)
  have fc42_ := fc30_.keep p35__0
  have fc43_ := fc31_.keep p35__0 (ninS (Ne.symm ne10_) nin0)
  have fc44_ := fc32_.keep p35__0 (ninS (Ne.symm ne10_) nin0)
  have fc45_ := fc33_.keep p35__0 (ninS ne36_ nin0)
  have fc46_ := p18__2.keep p35__0
  have fc47_ := p18__3.keep p35__0 (ninS (Ne.symm ne20_) nin0)
  have fc48_ := p18__4.keep p35__0 (ninS (Ne.symm ne20_) nin0)
  have fc49_ := p18__5.keep p35__0 (ninS ne37_ nin0)
  have K35_ := K18_.trans p35__0 (allS (Or.inr sz_b3_) all0)
  have Cs35_ : CHr Z own_EL T18_.vm T18_.heap T18_.vm T35_.heap := CHr.keep p35__0 sk34_ CH18_.1
  have CH35_ := CH18_.trans Cs35_
  have hk35_ := Nat.le_trans hk18_ Cs35_.2.1
  let ll4 : Array Slot := #[vI p1, vI p2, vI p3, vI p4, vI p5, vI ib, vI pb, vR b3_, vU, vU]
  refine jg T35_ mM 45 ll4 [] (fun tT kK => ?_) ?_
  · refine XS.astore X35_.here hx rfl (hC at_43) rfl rfl (l' := ll4) rfl ?_
    exact kK
  obtain ⟨T50_, h50_, X50_, e50_, E50_, A50_, D50_, -, st50_⟩ := newO X35_ hx hZ hown (jk hw 0 rfl) (jk hw 1 rfl) (jk hw 2 rfl) rfl (g := (mkF mM 45 ll4 [])) rfl (hC at_45) (by decide) (by decide)
  obtain ⟨b50_, g50_⟩ : ∃ z, z = T35_.heap.size := ⟨_, rfl⟩
  rw [← g50_] at A50_ D50_ st50_
  have sz_b50_ : h0.size ≤ b50_ := Nat.le_trans K35_.1 (Nat.le_of_eq g50_.symm)
  have ge_b50_ : n0 ≤ b50_ := Nat.le_trans Z0 sz_b50_
  have ne52_ : b3_ ≠ b50_ := Nat.ne_of_lt (Nat.lt_of_lt_of_le p35__1.lt (Nat.le_of_eq g50_.symm))
  have ne53_ : s'_8_ ≠ b50_ := Nat.ne_of_lt (Nat.lt_of_lt_of_le fc42_.lt (Nat.le_of_eq g50_.symm))
  have ne54_ : t'_8_ ≠ b50_ := Nat.ne_of_lt (Nat.lt_of_lt_of_le fc45_.lt (Nat.le_of_eq g50_.symm))
  have ne55_ : s'_18_ ≠ b50_ := Nat.ne_of_lt (Nat.lt_of_lt_of_le fc46_.lt (Nat.le_of_eq g50_.symm))
  have ne56_ : t'_18_ ≠ b50_ := Nat.ne_of_lt (Nat.lt_of_lt_of_le fc49_.lt (Nat.le_of_eq g50_.symm))
  have fc57_ := fc38_.ext E50_
  have fc58_ := fc39_.ext E50_
  have fc59_ := fc40_.ext E50_
  have fc60_ := p35__1.ext E50_
  have fc61_ := fc42_.ext E50_
  have fc62_ := fc43_.ext E50_
  have fc63_ := fc44_.ext E50_
  have fc64_ := fc45_.ext E50_
  have fc65_ := fc46_.ext E50_
  have fc66_ := fc47_.ext E50_
  have fc67_ := fc48_.ext E50_
  have fc68_ := fc49_.ext E50_
  have fc69_ := p35__2.ext E50_
  have fc70_ := p35__3.ext E50_
  have fc71_ := p35__4.ext E50_
  have Cs50_ : CHr Z own_EL T18_.vm T35_.heap T18_.vm h50_ := CHr.ext E50_ CH35_.1
  have CH50_ := CH35_.trans Cs50_
  have hk50_ := Nat.le_trans hk35_ Cs50_.2.1
  have K50_ := K35_.ext E50_
  have F50__id : jF3 Z h50_ b50_ .null := D50_ (Or.inr (jk hw 142 rfl)) (ty := (.object "java/lang/String")) (by decide)
  have F50__payload : jF4 Z h50_ b50_ .null := D50_ (Or.inr (jk hw 144 rfl)) (ty := (.object "java/lang/String")) (by decide)
  have F50__size : jF5 Z h50_ b50_ (.int (0 : Int32)) := D50_ (Or.inr (jk hw 146 rfl)) (ty := .int) (by decide)
  refine own_fin st50_ ?_
  refine jg T50_ mM 51 ll4 [(.int ib), (.ref b50_), (.ref b50_)] (fun tT kK => ?_) ?_
  · refine XS.dup X50_.here hx rfl (hC at_48) rfl rfl ?_
    refine XS.iload X50_.here hx rfl (hC at_49) rfl ?_
    exact kK
  obtain ⟨_, _, ⟨T72_, L72_, k72_, n72_⟩, -, Xa72_, hSa72_, hga72_, ⟨Lc72_, hQ72_, l72_, y72_, z72_, hC72_⟩, st72_⟩ := callSS X50_ hx (y := jy25) hown (jm hZ hw 3 rfl) (jm hZ hw 4 rfl) (jm hZ hw 5 rfl) (jm hZ hw 6 rfl) (by decide) (own_backSY (W := 2) (rm_id lL Z a0 hw [] ib cs fv h50_ n0 (Nat.le_trans Z0 K50_.1) fc57_ Scs ncs Sfv rfv) hZ (jk hw 6 rfl) (jk hw 5 rfl) (by decide) (by decide) (own_EW hw) CH50_.1 own_y0) (g := (mkF mM 51 ll4 [(.int ib), (.ref b50_), (.ref b50_)])) rfl (by rw [hml]; rfl) (argsL := [(.int ib)]) (rest := [(.ref b50_), (.ref b50_)]) (lenOf own_pd23 rfl) rfl (by show 2 * 0 + _ ≤ _; exact Nat.le_of_eq rfl) (hC at_51) (fun _ _ => ⟨rfl, e50_, (by decide : 15 + 7 ≤ _), (by decide : 562 + 544 ≤ _)⟩)
  dsimp only [Pt.U, Pt.locs, Pt.cells, Pt.slots] at Xa72_ hSa72_ hga72_ l72_ y72_ z72_ st72_ hQ72_ hC72_
  subst l72_ y72_ z72_
  obtain ⟨X72_, hS72_, hZ, hown⟩ := rebS hS18_ (own_hk e50_ hk50_) Xa72_ hSa72_ hga72_ hZ hown
  obtain ⟨s'_72_, t'_72_, z'_72_, f'_72_, rfl, N72_q, p72__0, p72__1, p72__2, p72__3, p72__4, p72__5, p72__6⟩ := hQ72_
  have N72_ := Fr.app N35_ N72_q
  have sz_s'_72_ : h0.size ≤ s'_72_ := Nat.le_trans K50_.1 p72__1
  have ge_s'_72_ : n0 ≤ s'_72_ := Nat.le_trans Z0 sz_s'_72_
  have ne79_ : b50_ ≠ s'_72_ := Nat.ne_of_lt (Nat.lt_of_lt_of_le A50_.lt p72__1)
  have fc80_ := fc57_.keep p72__0 all0
  have fc81_ := fc58_.keep p72__0
  have fc82_ := fc59_.keep p72__0 nin0
  have fc83_ := fc60_.keep p72__0
  have fc84_ := fc61_.keep p72__0
  have fc85_ := fc62_.keep p72__0 nin0
  have fc86_ := fc63_.keep p72__0 nin0
  have fc87_ := fc64_.keep p72__0 nin0
  have fc88_ := fc65_.keep p72__0
  have fc89_ := fc66_.keep p72__0 nin0
  have fc90_ := fc67_.keep p72__0 nin0
  have fc91_ := fc68_.keep p72__0 nin0
  have fc92_ := fc69_.keep p72__0 nin0
  have fc93_ := fc70_.keep p72__0 nin0
  have fc94_ := fc71_.keep p72__0 nin0
  have fc95_ := A50_.keep p72__0
  have fc96_ := F50__id.keep p72__0 nin0
  have fc97_ := F50__payload.keep p72__0 nin0
  have fc98_ := F50__size.keep p72__0 nin0
  have K72_ := K50_.trans p72__0 all0
  have CH72_ := CH50_.trans hC72_
  have hk72_ : T72_.heap.size ≤ T72_.heap.size := Nat.le_refl _
  refine own_fin (fun tT kK => st72_.trans kK) ?_
  refine jg T72_ mM 56 ll4 [(.int pb), (.ref s'_72_), (.ref b50_), (.ref b50_)] (fun tT kK => ?_) ?_
  · refine XS.iload X72_.here hx rfl (hC at_54) rfl ?_
    exact kK
  obtain ⟨_, _, ⟨T99_, L99_, k99_, n99_⟩, -, Xa99_, hSa99_, hga99_, ⟨Lc99_, hQ99_, l99_, y99_, z99_, hC99_⟩, st99_⟩ := callSS X72_ hx (y := jy26) hown (jm hZ hw 68 rfl) (jm hZ hw 69 rfl) (jm hZ hw 5 rfl) (jm hZ hw 70 rfl) (by decide) (own_backSY (W := 3) (rm_py lL Z a0 hw [] pb cs T72_.heap n0 (Nat.le_trans Z0 K72_.1) fc80_ Scs ncs) hZ (jk hw 70 rfl) (jk hw 5 rfl) (by decide) (by decide) (own_EW hw) CH72_.1 own_y0) (g := (mkF mM 56 ll4 [(.int pb), (.ref s'_72_), (.ref b50_), (.ref b50_)])) rfl (by rw [hml]; rfl) (argsL := [(.int pb)]) (rest := [(.ref s'_72_), (.ref b50_), (.ref b50_)]) (lenOf own_pd23 rfl) rfl (by show 2 * 0 + _ ≤ _; exact Nat.le_of_eq rfl) (hC at_56) (fun _ _ => ⟨rfl, rfl, (by decide : 22 + 6 ≤ _), (by decide : 1106 + 12 ≤ _)⟩)
  dsimp only [Pt.U, Pt.locs, Pt.cells, Pt.slots] at Xa99_ hSa99_ hga99_ l99_ y99_ z99_ st99_ hQ99_ hC99_
  subst l99_ y99_ z99_
  obtain ⟨X99_, hS99_, hZ, hown⟩ := rebS hS72_ (own_hk rfl hk72_) Xa99_ hSa99_ hga99_ hZ hown
  obtain ⟨s'_99_, t'_99_, z'_99_, f'_99_, rfl, N99_q, p99__0, p99__1, p99__2, p99__3, p99__4, p99__5, p99__6⟩ := hQ99_
  have N99_ := Fr.app N72_ N99_q
  have sz_s'_99_ : h0.size ≤ s'_99_ := Nat.le_trans K72_.1 p99__1
  have ge_s'_99_ : n0 ≤ s'_99_ := Nat.le_trans Z0 sz_s'_99_
  have ne106_ : b50_ ≠ s'_99_ := Nat.ne_of_lt (Nat.lt_of_lt_of_le fc95_.lt p99__1)
  have fc109_ := fc80_.keep p99__0 all0
  have fc110_ := fc81_.keep p99__0
  have fc111_ := fc82_.keep p99__0 nin0
  have fc112_ := fc83_.keep p99__0
  have fc113_ := fc84_.keep p99__0
  have fc114_ := fc85_.keep p99__0 nin0
  have fc115_ := fc86_.keep p99__0 nin0
  have fc116_ := fc87_.keep p99__0 nin0
  have fc117_ := fc88_.keep p99__0
  have fc118_ := fc89_.keep p99__0 nin0
  have fc119_ := fc90_.keep p99__0 nin0
  have fc120_ := fc91_.keep p99__0 nin0
  have fc121_ := fc92_.keep p99__0 nin0
  have fc122_ := fc93_.keep p99__0 nin0
  have fc123_ := fc94_.keep p99__0 nin0
  have fc124_ := fc95_.keep p99__0
  have fc125_ := fc96_.keep p99__0 nin0
  have fc126_ := fc97_.keep p99__0 nin0
  have fc127_ := fc98_.keep p99__0 nin0
  have fc128_ := p72__2.keep p99__0
  have fc129_ := p72__3.keep p99__0 nin0
  have fc130_ := p72__4.keep p99__0 nin0
  have fc131_ := p72__5.keep p99__0 nin0
  have K99_ := K72_.trans p99__0 all0
  have CH99_ := CH72_.trans hC99_
  have hk99_ : T99_.heap.size ≤ T99_.heap.size := Nat.le_refl _
  refine own_fin (fun tT kK => st99_.trans kK) ?_
  have sk132_ : ∀ x ∈ ([b50_] : List Addr), Safe Z own_EL T99_.vm T99_.heap x := (sfS (Safe.exa (EL := own_EL) hZ.alike fc124_ (by decide) (by decide)) sf0)
  refine own_sb X99_ hx hZ (y := jy35) rfl hown (jk hw 75 rfl) (jk hw 76 rfl) (jk hw 77 rfl) (jk hw 2 rfl) (rm_in lL Z a0 hw [] b50_ s'_72_ t'_72_ s'_99_ t'_99_ em z'_72_ z'_99_ f'_72_ f'_99_ cs fv T99_.heap n0 (Nat.le_trans Z0 K99_.1) fc109_ Scs ncs Sfv rfv Se fc111_ fc110_ fc124_ fc125_ fc126_ fc127_ fc128_ fc129_ fc130_ fc131_ p99__2 p99__3 p99__4 p99__5 ge_b50_ (by rw [p72__6.1]; exact own_il12 _) (by rw [p99__6.1]; exact own_pl012 _) (own_okz p72__6).1 (own_okz p72__6).2 (own_fdm p99__6 (own_pl012 _) (own_pn9 _ _ _ (Or.inl rfl)) (own_pn9 _ _ _ (Or.inl rfl))) (own_fdm p99__6 (own_pl012 _) (own_pn9 _ _ _ (Or.inr rfl)) (own_pn9 _ _ _ (Or.inr rfl)))) (a := b50_) rfl own_pd24 [(.ref s'_72_), (.ref s'_99_)] [(.ref b50_)] (hC at_59) rfl rfl (by rw [hml]; rfl) (by decide) 1 (Nat.le_of_eq rfl) (by decide) (by decide) (by decide : 28 + 0 ≤ _) (by decide : 1118 + 0 ≤ _) fun vv133_ T133_ L133_ X133_ hQ133_ => ?_
  obtain ⟨v'_133_, rfl, N133_q, p133__0, p133__1, p133__2, p133__3, p133__4⟩ := hQ133_
  have N133_ := Fr.app N99_ N133_q
  have ne134_ : t'_72_ ≠ b50_ := (Ne.symm (own_neT fc124_ fc131_ (jk hw 1 rfl)))
  have ne135_ : t'_99_ ≠ b50_ := (Ne.symm (own_neT fc124_ p99__5 (jk hw 1 rfl)))
  have fc136_ := fc109_.keep p133__0 (allS ge_b50_ all0)
  have fc139_ := fc112_.keep p133__0
  have fc140_ := fc113_.keep p133__0
  have fc141_ := fc114_.keep p133__0 (ninS ne53_ nin0)
  have fc142_ := fc115_.keep p133__0 (ninS ne53_ nin0)
  have fc143_ := fc116_.keep p133__0 (ninS ne54_ nin0)
  have fc144_ := fc117_.keep p133__0
  have fc145_ := fc118_.keep p133__0 (ninS ne55_ nin0)
  have fc146_ := fc119_.keep p133__0 (ninS ne55_ nin0)
  have fc147_ := fc120_.keep p133__0 (ninS ne56_ nin0)
  have fc148_ := fc121_.keep p133__0 (ninS ne52_ nin0)
  have fc149_ := fc122_.keep p133__0 (ninS ne52_ nin0)
  have fc150_ := fc123_.keep p133__0 (ninS ne52_ nin0)
  have fc152_ := fc128_.keep p133__0
  have fc153_ := fc129_.keep p133__0 (ninS (Ne.symm ne79_) nin0)
  have fc154_ := fc130_.keep p133__0 (ninS (Ne.symm ne79_) nin0)
  have fc155_ := fc131_.keep p133__0 (ninS ne134_ nin0)
  have fc156_ := p99__2.keep p133__0
  have fc157_ := p99__3.keep p133__0 (ninS (Ne.symm ne106_) nin0)
  have fc158_ := p99__4.keep p133__0 (ninS (Ne.symm ne106_) nin0)
  have fc159_ := p99__5.keep p133__0 (ninS ne135_ nin0)
  have K133_ := K99_.trans p133__0 (allS (Or.inr sz_b50_) all0)
  have Cs133_ : CHr Z own_EL T99_.vm T99_.heap T99_.vm T133_.heap := CHr.keep p133__0 sk132_ CH99_.1
  have CH133_ := CH99_.trans Cs133_
  have hk133_ := Nat.le_trans hk99_ Cs133_.2.1
  let ll5 : Array Slot := #[vI p1, vI p2, vI p3, vI p4, vI p5, vI ib, vI pb, vR b3_, vR b50_, vU]
  refine jg T133_ mM 67 ll5 [(.int ib), (.int p1)] (fun tT kK => ?_) ?_
  · refine XS.astore X133_.here hx rfl (hC at_62) rfl rfl (l' := ll5) rfl ?_
    refine XS.iloadN X133_.here hx rfl (hC at_64) rfl ?_
    refine XS.iload X133_.here hx rfl (hC at_65) rfl ?_
    exact kK
  obtain ⟨_, _, ⟨T160_, L160_, k160_, n160_⟩, -, Xa160_, hSa160_, hga160_, ⟨Lc160_, hQ160_, l160_, y160_, z160_, hC160_⟩, st160_⟩ := callSS X133_ hx (y := jy38) hown (jm hZ hw 147 rfl) (jm hZ hw 148 rfl) (jm hZ hw 5 rfl) (jm hZ hw 149 rfl) (by decide) (own_backSY (W := 0) (rm_iq lL Z a0 hw [] p1 ib cs fv T133_.heap n0 (Nat.le_trans Z0 K133_.1) fc136_ Scs ncs Sfv rfv) hZ (jk hw 149 rfl) (jk hw 5 rfl) (by decide) (by decide) (own_EW hw) CH133_.1 own_y0) (g := (mkF mM 67 ll5 [(.int ib), (.int p1)])) rfl (by rw [hml]; rfl) (argsL := [(.int p1), (.int ib)]) (rest := []) (lenOf own_pd25 rfl) rfl (by show 2 * 0 + _ ≤ _; exact Nat.le_of_eq rfl) (hC at_67) (fun _ _ => ⟨rfl, rfl, (by decide : 28 + 8 ≤ _), (by decide : 1118 + 1072 ≤ _)⟩)
  dsimp only [Pt.U, Pt.locs, Pt.cells, Pt.slots] at Xa160_ hSa160_ hga160_ l160_ y160_ z160_ st160_ hQ160_ hC160_
  subst l160_ y160_ z160_
  obtain ⟨X160_, hS160_, hZ, hown⟩ := rebS hS99_ (own_hk rfl hk133_) Xa160_ hSa160_ hga160_ hZ hown
  obtain ⟨rfl, N160_q, p160__0⟩ := hQ160_
  have N160_ := Fr.app N133_ N160_q
  have fc161_ := fc136_.keep p160__0 all0
  have fc164_ := fc139_.keep p160__0
  have fc165_ := fc140_.keep p160__0
  have fc166_ := fc141_.keep p160__0 nin0
  have fc167_ := fc142_.keep p160__0 nin0
  have fc168_ := fc143_.keep p160__0 nin0
  have fc169_ := fc144_.keep p160__0
  have fc170_ := fc145_.keep p160__0 nin0
  have fc171_ := fc146_.keep p160__0 nin0
  have fc172_ := fc147_.keep p160__0 nin0
  have fc173_ := fc148_.keep p160__0 nin0
  have fc174_ := fc149_.keep p160__0 nin0
  have fc175_ := fc150_.keep p160__0 nin0
  have fc176_ := p133__1.keep p160__0
  have fc177_ := fc152_.keep p160__0
  have fc178_ := fc153_.keep p160__0 nin0
  have fc179_ := fc154_.keep p160__0 nin0
  have fc180_ := fc155_.keep p160__0 nin0
  have fc181_ := fc156_.keep p160__0
  have fc182_ := fc157_.keep p160__0 nin0
  have fc183_ := fc158_.keep p160__0 nin0
  have fc184_ := fc159_.keep p160__0 nin0
  have fc185_ := p133__2.keep p160__0 nin0
  have fc186_ := p133__3.keep p160__0 nin0
  have fc187_ := p133__4.keep p160__0 nin0
  have K160_ := K133_.trans p160__0 all0
  have CH160_ := CH133_.trans hC160_
  have hk160_ : T160_.heap.size ≤ T160_.heap.size := Nat.le_refl _
  refine own_fin (fun tT kK => st160_.trans kK) ?_
  have hE1 := own_isEq p8__6 p72__6 (Or.inr (own_il12 _)) (own_idb _ _) (own_idb _ _) (own_idb _ _) (own_idb _ _)
  have hE2 := own_isEq p18__6 p99__6 (own_pl012 _) ⟨(own_pcb _ _).1, (own_pcb _ _).2.1⟩ ⟨(own_pcb _ _).1, (own_pcb _ _).2.1⟩ ⟨(own_pcb _ _).1, (own_pcb _ _).2.1⟩ ⟨(own_pcb _ _).1, (own_pcb _ _).2.1⟩
  have hR1 := (own_eqs _ _ _ _).trans hE1
  have hR2 := (own_eqs _ _ _ _).trans hE2
  by_cases hc70_188_ : (own_v (own_il p1) (own_idc p1 (0 : Int32)) (own_idc p1 (1 : Int32)) (own_il ib) (own_idc ib (0 : Int32)) (own_idc ib (1 : Int32))) = (0 : Int32)
  · let ll6 : Array Slot := #[vI p1, vI p2, vI p3, vI p4, vI p5, vI ib, vI pb, vR b3_, vR b50_, vI 0]
    refine jg T160_ mM 93 ll6 [(.ref b50_), (.ref b3_)] (fun tT kK => ?_) ?_
    · refine XS.ifYes X160_.here hx rfl (pc0 := 70) (pc' := 86) rfl (hC at_70) rfl ((if0 _ _).trans (teq (hc70_188_ : (own_v (own_il p1) (own_idc p1 (0 : Int32)) (own_idc p1 (1 : Int32)) (own_il ib) (own_idc ib (0 : Int32)) (own_idc ib (1 : Int32))) = (0 : Int32))).1) (by decide) (by decide) ?_
      refine XS.iconst X160_.here hx rfl (hC at_86) ?_
      refine XS.istore X160_.here hx rfl (hC at_87) rfl (l' := ll6) rfl ?_
      refine XS.aload X160_.here hx rfl (hC at_89) rfl rfl ?_
      refine XS.aload X160_.here hx rfl (hC at_91) rfl rfl ?_
      exact kK
    refine jv X160_ hx hZ (y := jy36) hown (jk hw 150 rfl) (jk hw 151 rfl) (jk hw 153 rfl) (jk hw 152 rfl) (jk hw 154 rfl) (jk hw 2 rfl) (rm_ieq lL Z a0 hw [] b3_ b50_ s'_8_ t'_8_ s'_72_ t'_72_ s'_18_ t'_18_ s'_99_ t'_99_ z'_8_ z'_72_ z'_18_ z'_99_ f'_8_ f'_72_ f'_18_ f'_99_ v'_35_ v'_133_ cs T160_.heap n0 (Nat.le_trans Z0 K160_.1) fc161_ Scs ncs fc164_ fc173_ fc174_ fc175_ fc176_ fc185_ fc186_ fc187_ fc165_ fc166_ fc167_ fc168_ fc169_ fc170_ fc171_ fc172_ fc177_ fc178_ fc179_ fc180_ fc181_ fc182_ fc183_ fc184_) fc164_ rfl own_pd22 [(.ref b50_)] [] (hC at_93) rfl rfl (by rw [hml]; rfl) (by decide) 0 (Nat.le_of_eq rfl) (by decide) (by decide) (by decide : 36 + 0 ≤ _) (by decide : 2190 + 0 ≤ _) fun vv189_ T189_ L189_ X189_ hQ189_ => ?_
    obtain ⟨rfl, N189_q, p189__0⟩ := hQ189_
    have N189_ := Fr.app N160_ N189_q
    refine jg T189_ mM 105 ll6 [(.ref b3_), (.ref b50_)] (fun tT kK => ?_) ?_
    · refine XS.iload X189_.here hx rfl (hC at_96) rfl ?_
      refine XS.icmpNo X189_.here hx rfl (hC at_98) rfl (teq ((by rw [hE1, if_pos hc70_188_]) : (if (own_eq z'_8_ f'_8_ z'_72_ f'_72_) = (0 : Int32) then (0 : Int32) else (if (own_eq z'_18_ f'_18_ z'_99_ f'_99_) = (0 : Int32) then (0 : Int32) else (1 : Int32))) = (0 : Int32))).2 ?_
      refine XS.aload X189_.here hx rfl (hC at_101) rfl rfl ?_
      refine XS.aload X189_.here hx rfl (hC at_103) rfl rfl ?_
      exact kK
    refine jv X189_ hx hZ (y := jy36) hown (jk hw 150 rfl) (jk hw 151 rfl) (jk hw 153 rfl) (jk hw 152 rfl) (jk hw 154 rfl) (jk hw 2 rfl) (rm_ieq lL Z a0 hw [] b50_ b3_ s'_72_ t'_72_ s'_8_ t'_8_ s'_99_ t'_99_ s'_18_ t'_18_ z'_72_ z'_8_ z'_99_ z'_18_ f'_72_ f'_8_ f'_99_ f'_18_ v'_133_ v'_35_ cs T160_.heap n0 (Nat.le_trans Z0 K160_.1) fc161_ Scs ncs fc176_ fc185_ fc186_ fc187_ fc164_ fc173_ fc174_ fc175_ fc177_ fc178_ fc179_ fc180_ fc181_ fc182_ fc183_ fc184_ fc165_ fc166_ fc167_ fc168_ fc169_ fc170_ fc171_ fc172_) fc176_ p189__0 own_pd22 [(.ref b3_)] [] (hC at_105) rfl rfl (by rw [hml]; rfl) (by decide) 0 (Nat.le_of_eq rfl) (by decide) (by decide) (by decide : 36 + 0 ≤ _) (by decide : 2190 + 0 ≤ _) fun vv190_ T190_ L190_ X190_ hQ190_ => ?_
    obtain ⟨rfl, N190_q, p190__0⟩ := hQ190_
    have N190_ := Fr.app N189_ N190_q
    refine jg T190_ mM 117 ll6 [(.ref b3_), (.ref b3_)] (fun tT kK => ?_) ?_
    · refine XS.iload X190_.here hx rfl (hC at_108) rfl ?_
      refine XS.icmpNo X190_.here hx rfl (hC at_110) rfl (teq ((by rw [hR1, if_pos hc70_188_]) : (if (own_eq z'_72_ f'_72_ z'_8_ f'_8_) = (0 : Int32) then (0 : Int32) else (if (own_eq z'_99_ f'_99_ z'_18_ f'_18_) = (0 : Int32) then (0 : Int32) else (1 : Int32))) = (0 : Int32))).2 ?_
      refine XS.aload X190_.here hx rfl (hC at_113) rfl rfl ?_
      refine XS.aload X190_.here hx rfl (hC at_115) rfl rfl ?_
      exact kK
    refine jv X190_ hx hZ (y := jy36) hown (jk hw 150 rfl) (jk hw 151 rfl) (jk hw 153 rfl) (jk hw 152 rfl) (jk hw 154 rfl) (jk hw 2 rfl) (rm_ieqs lL Z a0 hw [] b3_ s'_8_ t'_8_ s'_18_ t'_18_ z'_8_ z'_18_ f'_8_ f'_18_ v'_35_ cs T160_.heap n0 (Nat.le_trans Z0 K160_.1) fc161_ Scs ncs fc164_ fc173_ fc174_ fc175_ fc165_ fc166_ fc167_ fc168_ fc169_ fc170_ fc171_ fc172_) fc164_ p190__0 own_pd22 [(.ref b3_)] [] (hC at_117) rfl rfl (by rw [hml]; rfl) (by decide) 0 (Nat.le_of_eq rfl) (by decide) (by decide) (by decide : 36 + 0 ≤ _) (by decide : 2190 + 0 ≤ _) fun vv191_ T191_ L191_ X191_ hQ191_ => ?_
    obtain ⟨rfl, N191_q, p191__0⟩ := hQ191_
    have N191_ := Fr.app N190_ N191_q
    have hS1 := own_eqself rfl fc166_ fc166_ fc168_ fc168_
    have hS3 := own_eqself rfl fc170_ fc170_ fc172_ fc172_
    refine jg T191_ mM 126 ll6 [.null, (.ref b3_)] (fun tT kK => ?_) ?_
    · refine XS.ifNo X191_.here hx rfl (hC at_120) rfl ((if0 _ _).trans (feq ((by rw [hS1, hS3]; decide) : ¬ ((if (own_eq z'_8_ f'_8_ z'_8_ f'_8_) = (0 : Int32) then (0 : Int32) else (if (own_eq z'_18_ f'_18_ z'_18_ f'_18_) = (0 : Int32) then (0 : Int32) else (1 : Int32))) = (0 : Int32)))).1) ?_
      refine XS.aload X191_.here hx rfl (hC at_123) rfl rfl ?_
      refine XS.aconstNull X191_.here hx rfl (hC at_125) ?_
      exact kK
    refine jv X191_ hx hZ (y := jy36) hown (jk hw 150 rfl) (jk hw 151 rfl) (jk hw 153 rfl) (jk hw 152 rfl) (jk hw 154 rfl) (jk hw 2 rfl) (rm_ien lL Z a0 hw [] b3_ T160_.heap n0 (Nat.le_trans Z0 K160_.1) ) fc164_ p191__0 own_pd22 [.null] [] (hC at_126) rfl rfl (by rw [hml]; rfl) (by decide) 0 (Nat.le_of_eq rfl) (by decide) (by decide) (by decide : 36 + 0 ≤ _) (by decide : 2190 + 0 ≤ _) fun vv192_ T192_ L192_ X192_ hQ192_ => ?_
    obtain ⟨rfl, N192_q, p192__0⟩ := hQ192_
    have N192_ := Fr.app N191_ N192_q
    refine jg T192_ mM 136 ll6 [(.ref b3_), (.ref b3_)] (fun tT kK => ?_) ?_
    · refine XS.ifNo X192_.here hx rfl (hC at_129) rfl ((if0 _ _).trans (teq ((by decide) : (0 : Int32) = (0 : Int32))).2) ?_
      refine XS.aload X192_.here hx rfl (hC at_132) rfl rfl ?_
      refine XS.aload X192_.here hx rfl (hC at_134) rfl rfl ?_
      exact kK
    refine jv X192_ hx hZ (y := jy37) hown (jk hw 166 rfl) (jk hw 167 rfl) (jk hw 169 rfl) (jk hw 168 rfl) (jk hw 170 rfl) (jk hw 2 rfl) (rm_gid lL Z a0 hw [] b3_ s'_8_ T160_.heap n0 (Nat.le_trans Z0 K160_.1) fc173_) fc164_ p192__0 own_pd26 [] [(.ref b3_)] (hC at_136) rfl rfl (by rw [hml]; rfl) (by decide) 1 (Nat.le_of_eq rfl) (by decide) (by decide) (by decide : 36 + 0 ≤ _) (by decide : 2190 + 0 ≤ _) fun vv193_ T193_ L193_ X193_ hQ193_ => ?_
    obtain ⟨rfl, N193_q, p193__0⟩ := hQ193_
    have N193_ := Fr.app N192_ N193_q
    refine jv X193_ hx hZ (y := jy36) hown (jk hw 150 rfl) (jk hw 151 rfl) (jk hw 153 rfl) (jk hw 152 rfl) (jk hw 154 rfl) (jk hw 2 rfl) (rm_iet lL Z a0 hw [] b3_ s'_8_ T160_.heap n0 (Nat.le_trans Z0 K160_.1) fc165_) fc164_ p193__0 own_pd22 [(.ref s'_8_)] [] (hC at_139) rfl rfl (by rw [hml]; rfl) (by decide) 0 (Nat.le_of_eq rfl) (by decide) (by decide) (by decide : 36 + 0 ≤ _) (by decide : 2190 + 0 ≤ _) fun vv194_ T194_ L194_ X194_ hQ194_ => ?_
    obtain ⟨rfl, N194_q, p194__0⟩ := hQ194_
    have N194_ := Fr.app N193_ N194_q
    refine jg T194_ mM 150 ll6 [(.int (1 : Int32))] (fun tT kK => ?_) ?_
    · refine XS.ifNo X194_.here hx rfl (hC at_142) rfl ((if0 _ _).trans (teq ((by decide) : (0 : Int32) = (0 : Int32))).2) ?_
      refine XS.iconst X194_.here hx rfl (hC at_145) ?_
      refine XS.goto X194_.here hx rfl (pc0 := 146) (pc' := 150) rfl (hC at_146) (by decide) (by decide) ?_
      exact kK
    obtain ⟨fs, hr, hrun, hended, hE1, hE2, hE3, hE4⟩ := X194_.leaveW hS160_ (own_hk p194__0 hk160_) (v := some (.int (1 : Int32))) (fun h => by rw [Bd.returns] at h; cases h)
    refine ⟨_, _, ?_, hrun, hended, _, _, rfl, ?_, own_CHe (T := T194_) (vm1 := T194_.vm) hh p194__0 (CH160_.trans (CHv.at X194_ hZ (own_EW hw) CH160_.1)), hE1, hE2, hE3, hE4.mono (by decide) (by decide)⟩
    · show Steps pP.tables eE below (T194_.setTop (mkF mM 150 ll6 [(.int (1 : Int32))])) _
      exact retN X194_ hx (t := .boolean) Bd.returns (by simp) (hC at_150) hr
    · show Q_rm0 Z p1 p2 p3 p4 p5 cs fv em h0 n0 _ T194_.heap _
      rw [p194__0]
      exact ⟨rfl, N194_⟩
  · refine jg T160_ mM 76 ll5 [(.int pb), (.int p2)] (fun tT kK => ?_) ?_
    · refine XS.ifNo X160_.here hx rfl (hC at_70) rfl ((if0 _ _).trans (feq (hc70_188_ : ¬ ((own_v (own_il p1) (own_idc p1 (0 : Int32)) (own_idc p1 (1 : Int32)) (own_il ib) (own_idc ib (0 : Int32)) (own_idc ib (1 : Int32))) = (0 : Int32)))).1) ?_
      refine XS.iloadN X160_.here hx rfl (hC at_73) rfl ?_
      refine XS.iload X160_.here hx rfl (hC at_74) rfl ?_
      exact kK
    refine jc X160_ hx hZ (y := jy39) hown (jk hw 173 rfl) (jk hw 174 rfl) (jk hw 5 rfl) (jk hw 175 rfl) (rm_pq lL Z a0 hw [] p2 pb T160_.heap n0 (Nat.le_trans Z0 K160_.1) ) rfl own_pd25 [(.int p2), (.int pb)] [] (hC at_76) rfl rfl (by rw [hml]; rfl) (by decide) 0 (Nat.le_of_eq rfl) (by decide) (by decide) (by decide : 36 + 0 ≤ _) (by decide : 2190 + 0 ≤ _) fun vv195_ T195_ L195_ X195_ hQ195_ => ?_
    obtain ⟨rfl, N195_q, p195__0⟩ := hQ195_
    have N195_ := Fr.app N160_ N195_q
    by_cases hc79_196_ : (own_v (own_pl p2) (own_pc p2 (0 : Int32)) (own_pc p2 (1 : Int32)) (own_pl pb) (own_pc pb (0 : Int32)) (own_pc pb (1 : Int32))) = (0 : Int32)
    · let ll7 : Array Slot := #[vI p1, vI p2, vI p3, vI p4, vI p5, vI ib, vI pb, vR b3_, vR b50_, vI 0]
      refine jg T195_ mM 93 ll7 [(.ref b50_), (.ref b3_)] (fun tT kK => ?_) ?_
      · refine XS.ifYes X195_.here hx rfl (pc0 := 79) (pc' := 86) rfl (hC at_79) rfl ((if0 _ _).trans (teq (hc79_196_ : (own_v (own_pl p2) (own_pc p2 (0 : Int32)) (own_pc p2 (1 : Int32)) (own_pl pb) (own_pc pb (0 : Int32)) (own_pc pb (1 : Int32))) = (0 : Int32))).1) (by decide) (by decide) ?_
        refine XS.iconst X195_.here hx rfl (hC at_86) ?_
        refine XS.istore X195_.here hx rfl (hC at_87) rfl (l' := ll7) rfl ?_
        refine XS.aload X195_.here hx rfl (hC at_89) rfl rfl ?_
        refine XS.aload X195_.here hx rfl (hC at_91) rfl rfl ?_
        exact kK
      refine jv X195_ hx hZ (y := jy36) hown (jk hw 150 rfl) (jk hw 151 rfl) (jk hw 153 rfl) (jk hw 152 rfl) (jk hw 154 rfl) (jk hw 2 rfl) (rm_ieq lL Z a0 hw [] b3_ b50_ s'_8_ t'_8_ s'_72_ t'_72_ s'_18_ t'_18_ s'_99_ t'_99_ z'_8_ z'_72_ z'_18_ z'_99_ f'_8_ f'_72_ f'_18_ f'_99_ v'_35_ v'_133_ cs T160_.heap n0 (Nat.le_trans Z0 K160_.1) fc161_ Scs ncs fc164_ fc173_ fc174_ fc175_ fc176_ fc185_ fc186_ fc187_ fc165_ fc166_ fc167_ fc168_ fc169_ fc170_ fc171_ fc172_ fc177_ fc178_ fc179_ fc180_ fc181_ fc182_ fc183_ fc184_) fc164_ p195__0 own_pd22 [(.ref b50_)] [] (hC at_93) rfl rfl (by rw [hml]; rfl) (by decide) 0 (Nat.le_of_eq rfl) (by decide) (by decide) (by decide : 36 + 0 ≤ _) (by decide : 2190 + 0 ≤ _) fun vv197_ T197_ L197_ X197_ hQ197_ => ?_
      obtain ⟨rfl, N197_q, p197__0⟩ := hQ197_
      have N197_ := Fr.app N195_ N197_q
      refine jg T197_ mM 105 ll7 [(.ref b3_), (.ref b50_)] (fun tT kK => ?_) ?_
      · refine XS.iload X197_.here hx rfl (hC at_96) rfl ?_
        refine XS.icmpNo X197_.here hx rfl (hC at_98) rfl (teq ((by rw [hE1, if_neg hc70_188_, hE2, if_pos hc79_196_]) : (if (own_eq z'_8_ f'_8_ z'_72_ f'_72_) = (0 : Int32) then (0 : Int32) else (if (own_eq z'_18_ f'_18_ z'_99_ f'_99_) = (0 : Int32) then (0 : Int32) else (1 : Int32))) = (0 : Int32))).2 ?_
        refine XS.aload X197_.here hx rfl (hC at_101) rfl rfl ?_
        refine XS.aload X197_.here hx rfl (hC at_103) rfl rfl ?_
        exact kK
      refine jv X197_ hx hZ (y := jy36) hown (jk hw 150 rfl) (jk hw 151 rfl) (jk hw 153 rfl) (jk hw 152 rfl) (jk hw 154 rfl) (jk hw 2 rfl) (rm_ieq lL Z a0 hw [] b50_ b3_ s'_72_ t'_72_ s'_8_ t'_8_ s'_99_ t'_99_ s'_18_ t'_18_ z'_72_ z'_8_ z'_99_ z'_18_ f'_72_ f'_8_ f'_99_ f'_18_ v'_133_ v'_35_ cs T160_.heap n0 (Nat.le_trans Z0 K160_.1) fc161_ Scs ncs fc176_ fc185_ fc186_ fc187_ fc164_ fc173_ fc174_ fc175_ fc177_ fc178_ fc179_ fc180_ fc181_ fc182_ fc183_ fc184_ fc165_ fc166_ fc167_ fc168_ fc169_ fc170_ fc171_ fc172_) fc176_ p197__0 own_pd22 [(.ref b3_)] [] (hC at_105) rfl rfl (by rw [hml]; rfl) (by decide) 0 (Nat.le_of_eq rfl) (by decide) (by decide) (by decide : 36 + 0 ≤ _) (by decide : 2190 + 0 ≤ _) fun vv198_ T198_ L198_ X198_ hQ198_ => ?_
      obtain ⟨rfl, N198_q, p198__0⟩ := hQ198_
      have N198_ := Fr.app N197_ N198_q
      refine jg T198_ mM 117 ll7 [(.ref b3_), (.ref b3_)] (fun tT kK => ?_) ?_
      · refine XS.iload X198_.here hx rfl (hC at_108) rfl ?_
        refine XS.icmpNo X198_.here hx rfl (hC at_110) rfl (teq ((by rw [hR1, if_neg hc70_188_, hR2, if_pos hc79_196_]) : (if (own_eq z'_72_ f'_72_ z'_8_ f'_8_) = (0 : Int32) then (0 : Int32) else (if (own_eq z'_99_ f'_99_ z'_18_ f'_18_) = (0 : Int32) then (0 : Int32) else (1 : Int32))) = (0 : Int32))).2 ?_
        refine XS.aload X198_.here hx rfl (hC at_113) rfl rfl ?_
        refine XS.aload X198_.here hx rfl (hC at_115) rfl rfl ?_
        exact kK
      refine jv X198_ hx hZ (y := jy36) hown (jk hw 150 rfl) (jk hw 151 rfl) (jk hw 153 rfl) (jk hw 152 rfl) (jk hw 154 rfl) (jk hw 2 rfl) (rm_ieqs lL Z a0 hw [] b3_ s'_8_ t'_8_ s'_18_ t'_18_ z'_8_ z'_18_ f'_8_ f'_18_ v'_35_ cs T160_.heap n0 (Nat.le_trans Z0 K160_.1) fc161_ Scs ncs fc164_ fc173_ fc174_ fc175_ fc165_ fc166_ fc167_ fc168_ fc169_ fc170_ fc171_ fc172_) fc164_ p198__0 own_pd22 [(.ref b3_)] [] (hC at_117) rfl rfl (by rw [hml]; rfl) (by decide) 0 (Nat.le_of_eq rfl) (by decide) (by decide) (by decide : 36 + 0 ≤ _) (by decide : 2190 + 0 ≤ _) fun vv199_ T199_ L199_ X199_ hQ199_ => ?_
      obtain ⟨rfl, N199_q, p199__0⟩ := hQ199_
      have N199_ := Fr.app N198_ N199_q
      have hS1 := own_eqself rfl fc166_ fc166_ fc168_ fc168_
      have hS3 := own_eqself rfl fc170_ fc170_ fc172_ fc172_
      refine jg T199_ mM 126 ll7 [.null, (.ref b3_)] (fun tT kK => ?_) ?_
      · refine XS.ifNo X199_.here hx rfl (hC at_120) rfl ((if0 _ _).trans (feq ((by rw [hS1, hS3]; decide) : ¬ ((if (own_eq z'_8_ f'_8_ z'_8_ f'_8_) = (0 : Int32) then (0 : Int32) else (if (own_eq z'_18_ f'_18_ z'_18_ f'_18_) = (0 : Int32) then (0 : Int32) else (1 : Int32))) = (0 : Int32)))).1) ?_
        refine XS.aload X199_.here hx rfl (hC at_123) rfl rfl ?_
        refine XS.aconstNull X199_.here hx rfl (hC at_125) ?_
        exact kK
      refine jv X199_ hx hZ (y := jy36) hown (jk hw 150 rfl) (jk hw 151 rfl) (jk hw 153 rfl) (jk hw 152 rfl) (jk hw 154 rfl) (jk hw 2 rfl) (rm_ien lL Z a0 hw [] b3_ T160_.heap n0 (Nat.le_trans Z0 K160_.1) ) fc164_ p199__0 own_pd22 [.null] [] (hC at_126) rfl rfl (by rw [hml]; rfl) (by decide) 0 (Nat.le_of_eq rfl) (by decide) (by decide) (by decide : 36 + 0 ≤ _) (by decide : 2190 + 0 ≤ _) fun vv200_ T200_ L200_ X200_ hQ200_ => ?_
      obtain ⟨rfl, N200_q, p200__0⟩ := hQ200_
      have N200_ := Fr.app N199_ N200_q
      refine jg T200_ mM 136 ll7 [(.ref b3_), (.ref b3_)] (fun tT kK => ?_) ?_
      · refine XS.ifNo X200_.here hx rfl (hC at_129) rfl ((if0 _ _).trans (teq ((by decide) : (0 : Int32) = (0 : Int32))).2) ?_
        refine XS.aload X200_.here hx rfl (hC at_132) rfl rfl ?_
        refine XS.aload X200_.here hx rfl (hC at_134) rfl rfl ?_
        exact kK
      refine jv X200_ hx hZ (y := jy37) hown (jk hw 166 rfl) (jk hw 167 rfl) (jk hw 169 rfl) (jk hw 168 rfl) (jk hw 170 rfl) (jk hw 2 rfl) (rm_gid lL Z a0 hw [] b3_ s'_8_ T160_.heap n0 (Nat.le_trans Z0 K160_.1) fc173_) fc164_ p200__0 own_pd26 [] [(.ref b3_)] (hC at_136) rfl rfl (by rw [hml]; rfl) (by decide) 1 (Nat.le_of_eq rfl) (by decide) (by decide) (by decide : 36 + 0 ≤ _) (by decide : 2190 + 0 ≤ _) fun vv201_ T201_ L201_ X201_ hQ201_ => ?_
      obtain ⟨rfl, N201_q, p201__0⟩ := hQ201_
      have N201_ := Fr.app N200_ N201_q
      refine jv X201_ hx hZ (y := jy36) hown (jk hw 150 rfl) (jk hw 151 rfl) (jk hw 153 rfl) (jk hw 152 rfl) (jk hw 154 rfl) (jk hw 2 rfl) (rm_iet lL Z a0 hw [] b3_ s'_8_ T160_.heap n0 (Nat.le_trans Z0 K160_.1) fc165_) fc164_ p201__0 own_pd22 [(.ref s'_8_)] [] (hC at_139) rfl rfl (by rw [hml]; rfl) (by decide) 0 (Nat.le_of_eq rfl) (by decide) (by decide) (by decide : 36 + 0 ≤ _) (by decide : 2190 + 0 ≤ _) fun vv202_ T202_ L202_ X202_ hQ202_ => ?_
      obtain ⟨rfl, N202_q, p202__0⟩ := hQ202_
      have N202_ := Fr.app N201_ N202_q
      refine jg T202_ mM 150 ll7 [(.int (1 : Int32))] (fun tT kK => ?_) ?_
      · refine XS.ifNo X202_.here hx rfl (hC at_142) rfl ((if0 _ _).trans (teq ((by decide) : (0 : Int32) = (0 : Int32))).2) ?_
        refine XS.iconst X202_.here hx rfl (hC at_145) ?_
        refine XS.goto X202_.here hx rfl (pc0 := 146) (pc' := 150) rfl (hC at_146) (by decide) (by decide) ?_
        exact kK
      obtain ⟨fs, hr, hrun, hended, hE1, hE2, hE3, hE4⟩ := X202_.leaveW hS160_ (own_hk p202__0 hk160_) (v := some (.int (1 : Int32))) (fun h => by rw [Bd.returns] at h; cases h)
      refine ⟨_, _, ?_, hrun, hended, _, _, rfl, ?_, own_CHe (T := T202_) (vm1 := T202_.vm) hh p202__0 (CH160_.trans (CHv.at X202_ hZ (own_EW hw) CH160_.1)), hE1, hE2, hE3, hE4.mono (by decide) (by decide)⟩
      · show Steps pP.tables eE below (T202_.setTop (mkF mM 150 ll7 [(.int (1 : Int32))])) _
        exact retN X202_ hx (t := .boolean) Bd.returns (by simp) (hC at_150) hr
      · show Q_rm0 Z p1 p2 p3 p4 p5 cs fv em h0 n0 _ T202_.heap _
        rw [p202__0]
        exact ⟨rfl, N202_⟩
    · let ll8 : Array Slot := #[vI p1, vI p2, vI p3, vI p4, vI p5, vI ib, vI pb, vR b3_, vR b50_, vI 1]
      refine jg T195_ mM 93 ll8 [(.ref b50_), (.ref b3_)] (fun tT kK => ?_) ?_
      · refine XS.ifNo X195_.here hx rfl (hC at_79) rfl ((if0 _ _).trans (feq (hc79_196_ : ¬ ((own_v (own_pl p2) (own_pc p2 (0 : Int32)) (own_pc p2 (1 : Int32)) (own_pl pb) (own_pc pb (0 : Int32)) (own_pc pb (1 : Int32))) = (0 : Int32)))).1) ?_
        refine XS.iconst X195_.here hx rfl (hC at_82) ?_
        refine XS.goto X195_.here hx rfl (pc0 := 83) (pc' := 87) rfl (hC at_83) (by decide) (by decide) ?_
        refine XS.istore X195_.here hx rfl (hC at_87) rfl (l' := ll8) rfl ?_
        refine XS.aload X195_.here hx rfl (hC at_89) rfl rfl ?_
        refine XS.aload X195_.here hx rfl (hC at_91) rfl rfl ?_
        exact kK
      refine jv X195_ hx hZ (y := jy36) hown (jk hw 150 rfl) (jk hw 151 rfl) (jk hw 153 rfl) (jk hw 152 rfl) (jk hw 154 rfl) (jk hw 2 rfl) (rm_ieq lL Z a0 hw [] b3_ b50_ s'_8_ t'_8_ s'_72_ t'_72_ s'_18_ t'_18_ s'_99_ t'_99_ z'_8_ z'_72_ z'_18_ z'_99_ f'_8_ f'_72_ f'_18_ f'_99_ v'_35_ v'_133_ cs T160_.heap n0 (Nat.le_trans Z0 K160_.1) fc161_ Scs ncs fc164_ fc173_ fc174_ fc175_ fc176_ fc185_ fc186_ fc187_ fc165_ fc166_ fc167_ fc168_ fc169_ fc170_ fc171_ fc172_ fc177_ fc178_ fc179_ fc180_ fc181_ fc182_ fc183_ fc184_) fc164_ p195__0 own_pd22 [(.ref b50_)] [] (hC at_93) rfl rfl (by rw [hml]; rfl) (by decide) 0 (Nat.le_of_eq rfl) (by decide) (by decide) (by decide : 36 + 0 ≤ _) (by decide : 2190 + 0 ≤ _) fun vv203_ T203_ L203_ X203_ hQ203_ => ?_
      obtain ⟨rfl, N203_q, p203__0⟩ := hQ203_
      have N203_ := Fr.app N195_ N203_q
      refine jg T203_ mM 105 ll8 [(.ref b3_), (.ref b50_)] (fun tT kK => ?_) ?_
      · refine XS.iload X203_.here hx rfl (hC at_96) rfl ?_
        refine XS.icmpNo X203_.here hx rfl (hC at_98) rfl (teq ((by rw [hE1, if_neg hc70_188_, hE2, if_neg hc79_196_]) : (if (own_eq z'_8_ f'_8_ z'_72_ f'_72_) = (0 : Int32) then (0 : Int32) else (if (own_eq z'_18_ f'_18_ z'_99_ f'_99_) = (0 : Int32) then (0 : Int32) else (1 : Int32))) = (1 : Int32))).2 ?_
        refine XS.aload X203_.here hx rfl (hC at_101) rfl rfl ?_
        refine XS.aload X203_.here hx rfl (hC at_103) rfl rfl ?_
        exact kK
      refine jv X203_ hx hZ (y := jy36) hown (jk hw 150 rfl) (jk hw 151 rfl) (jk hw 153 rfl) (jk hw 152 rfl) (jk hw 154 rfl) (jk hw 2 rfl) (rm_ieq lL Z a0 hw [] b50_ b3_ s'_72_ t'_72_ s'_8_ t'_8_ s'_99_ t'_99_ s'_18_ t'_18_ z'_72_ z'_8_ z'_99_ z'_18_ f'_72_ f'_8_ f'_99_ f'_18_ v'_133_ v'_35_ cs T160_.heap n0 (Nat.le_trans Z0 K160_.1) fc161_ Scs ncs fc176_ fc185_ fc186_ fc187_ fc164_ fc173_ fc174_ fc175_ fc177_ fc178_ fc179_ fc180_ fc181_ fc182_ fc183_ fc184_ fc165_ fc166_ fc167_ fc168_ fc169_ fc170_ fc171_ fc172_) fc176_ p203__0 own_pd22 [(.ref b3_)] [] (hC at_105) rfl rfl (by rw [hml]; rfl) (by decide) 0 (Nat.le_of_eq rfl) (by decide) (by decide) (by decide : 36 + 0 ≤ _) (by decide : 2190 + 0 ≤ _) fun vv204_ T204_ L204_ X204_ hQ204_ => ?_
      obtain ⟨rfl, N204_q, p204__0⟩ := hQ204_
      have N204_ := Fr.app N203_ N204_q
      refine jg T204_ mM 117 ll8 [(.ref b3_), (.ref b3_)] (fun tT kK => ?_) ?_
      · refine XS.iload X204_.here hx rfl (hC at_108) rfl ?_
        refine XS.icmpNo X204_.here hx rfl (hC at_110) rfl (teq ((by rw [hR1, if_neg hc70_188_, hR2, if_neg hc79_196_]) : (if (own_eq z'_72_ f'_72_ z'_8_ f'_8_) = (0 : Int32) then (0 : Int32) else (if (own_eq z'_99_ f'_99_ z'_18_ f'_18_) = (0 : Int32) then (0 : Int32) else (1 : Int32))) = (1 : Int32))).2 ?_
        refine XS.aload X204_.here hx rfl (hC at_113) rfl rfl ?_
        refine XS.aload X204_.here hx rfl (hC at_115) rfl rfl ?_
        exact kK
      refine jv X204_ hx hZ (y := jy36) hown (jk hw 150 rfl) (jk hw 151 rfl) (jk hw 153 rfl) (jk hw 152 rfl) (jk hw 154 rfl) (jk hw 2 rfl) (rm_ieqs lL Z a0 hw [] b3_ s'_8_ t'_8_ s'_18_ t'_18_ z'_8_ z'_18_ f'_8_ f'_18_ v'_35_ cs T160_.heap n0 (Nat.le_trans Z0 K160_.1) fc161_ Scs ncs fc164_ fc173_ fc174_ fc175_ fc165_ fc166_ fc167_ fc168_ fc169_ fc170_ fc171_ fc172_) fc164_ p204__0 own_pd22 [(.ref b3_)] [] (hC at_117) rfl rfl (by rw [hml]; rfl) (by decide) 0 (Nat.le_of_eq rfl) (by decide) (by decide) (by decide : 36 + 0 ≤ _) (by decide : 2190 + 0 ≤ _) fun vv205_ T205_ L205_ X205_ hQ205_ => ?_
      obtain ⟨rfl, N205_q, p205__0⟩ := hQ205_
      have N205_ := Fr.app N204_ N205_q
      have hS1 := own_eqself rfl fc166_ fc166_ fc168_ fc168_
      have hS3 := own_eqself rfl fc170_ fc170_ fc172_ fc172_
      refine jg T205_ mM 126 ll8 [.null, (.ref b3_)] (fun tT kK => ?_) ?_
      · refine XS.ifNo X205_.here hx rfl (hC at_120) rfl ((if0 _ _).trans (feq ((by rw [hS1, hS3]; decide) : ¬ ((if (own_eq z'_8_ f'_8_ z'_8_ f'_8_) = (0 : Int32) then (0 : Int32) else (if (own_eq z'_18_ f'_18_ z'_18_ f'_18_) = (0 : Int32) then (0 : Int32) else (1 : Int32))) = (0 : Int32)))).1) ?_
        refine XS.aload X205_.here hx rfl (hC at_123) rfl rfl ?_
        refine XS.aconstNull X205_.here hx rfl (hC at_125) ?_
        exact kK
      refine jv X205_ hx hZ (y := jy36) hown (jk hw 150 rfl) (jk hw 151 rfl) (jk hw 153 rfl) (jk hw 152 rfl) (jk hw 154 rfl) (jk hw 2 rfl) (rm_ien lL Z a0 hw [] b3_ T160_.heap n0 (Nat.le_trans Z0 K160_.1) ) fc164_ p205__0 own_pd22 [.null] [] (hC at_126) rfl rfl (by rw [hml]; rfl) (by decide) 0 (Nat.le_of_eq rfl) (by decide) (by decide) (by decide : 36 + 0 ≤ _) (by decide : 2190 + 0 ≤ _) fun vv206_ T206_ L206_ X206_ hQ206_ => ?_
      obtain ⟨rfl, N206_q, p206__0⟩ := hQ206_
      have N206_ := Fr.app N205_ N206_q
      refine jg T206_ mM 136 ll8 [(.ref b3_), (.ref b3_)] (fun tT kK => ?_) ?_
      · refine XS.ifNo X206_.here hx rfl (hC at_129) rfl ((if0 _ _).trans (teq ((by decide) : (0 : Int32) = (0 : Int32))).2) ?_
        refine XS.aload X206_.here hx rfl (hC at_132) rfl rfl ?_
        show Steps pP.tables eE below (T206_.setTop (mkF mM 134 ll8 [(.ref b3_)])) tT
        refine XS.aload X206_.here hx rfl (hC at_134) rfl rfl ?_
        exact kK
      refine jv X206_ hx hZ (y := jy37) hown (jk hw 166 rfl) (jk hw 167 rfl) (jk hw 169 rfl) (jk hw 168 rfl) (jk hw 170 rfl) (jk hw 2 rfl) (rm_gid lL Z a0 hw [] b3_ s'_8_ T160_.heap n0 (Nat.le_trans Z0 K160_.1) fc173_) fc164_ p206__0 own_pd26 [] [(.ref b3_)] (hC at_136) rfl rfl (by rw [hml]; rfl) (by decide) 1 (Nat.le_of_eq rfl) (by decide) (by decide) (by decide : 36 + 0 ≤ _) (by decide : 2190 + 0 ≤ _) fun vv207_ T207_ L207_ X207_ hQ207_ => ?_
      obtain ⟨rfl, N207_q, p207__0⟩ := hQ207_
      have N207_ := Fr.app N206_ N207_q
      refine jv X207_ hx hZ (y := jy36) hown (jk hw 150 rfl) (jk hw 151 rfl) (jk hw 153 rfl) (jk hw 152 rfl) (jk hw 154 rfl) (jk hw 2 rfl) (rm_iet lL Z a0 hw [] b3_ s'_8_ T160_.heap n0 (Nat.le_trans Z0 K160_.1) fc165_) fc164_ p207__0 own_pd22 [(.ref s'_8_)] [] (hC at_139) rfl rfl (by rw [hml]; rfl) (by decide) 0 (Nat.le_of_eq rfl) (by decide) (by decide) (by decide : 36 + 0 ≤ _) (by decide : 2190 + 0 ≤ _) fun vv208_ T208_ L208_ X208_ hQ208_ => ?_
      obtain ⟨rfl, N208_q, p208__0⟩ := hQ208_
      have N208_ := Fr.app N207_ N208_q
      refine jg T208_ mM 150 ll8 [(.int (1 : Int32))] (fun tT kK => ?_) ?_
      · refine XS.ifNo X208_.here hx rfl (hC at_142) rfl ((if0 _ _).trans (teq ((by decide) : (0 : Int32) = (0 : Int32))).2) ?_
        refine XS.iconst X208_.here hx rfl (hC at_145) ?_
        refine XS.goto X208_.here hx rfl (pc0 := 146) (pc' := 150) rfl (hC at_146) (by decide) (by decide) ?_
        exact kK
      obtain ⟨fs, hr, hrun, hended, hE1, hE2, hE3, hE4⟩ := X208_.leaveW hS160_ (own_hk p208__0 hk160_) (v := some (.int (1 : Int32))) (fun h => by rw [Bd.returns] at h; cases h)
      refine ⟨_, _, ?_, hrun, hended, _, _, rfl, ?_, own_CHe (T := T208_) (vm1 := T208_.vm) hh p208__0 (CH160_.trans (CHv.at X208_ hZ (own_EW hw) CH160_.1)), hE1, hE2, hE3, hE4.mono (by decide) (by decide)⟩
      · show Steps pP.tables eE below (T208_.setTop (mkF mM 150 ll8 [(.int (1 : Int32))])) _
        exact retN X208_ hx (t := .boolean) Bd.returns (by simp) (hC at_150) hr
      · show Q_rm0 Z p1 p2 p3 p4 p5 cs fv em h0 n0 _ T208_.heap _
        rw [p208__0]
        exact ⟨rfl, N208_⟩
theorem own_ncs0 {args : Array Value} {s : State} {t : Term} {cs : Int32} (ev : t.eval args s none [] s = some (.int cs)) (h : (Jvm.Cond.not (Jvm.Cond.eq t (Jvm.Term.int (0 : Int32)))).value args s none s [] = some true) : ¬ (cs = (0 : Int32)) := fun q => by
  have e2 : (Jvm.Term.int (0 : Int32)).eval args s none [] s = some (.int 0) := Term.int_eval 0
  subst q
  simp [Cond.value, ev, e2] at h
theorem own_sub : ∀ p ∈ own_EL, p ∈ consts_1 := by decide
set_option maxRecDepth 65536 in
set_option maxHeartbeats 40000000 in
theorem comes_1 {Post : Tables → Env → Array Value → State → Outcome → State → Prop} (hpost : ∀ tb e args s v u, (limb_1_1.after args s (.returned v) u = true ∧ limb_1_2.after args s (.returned v) u = true ∧ True) → ReturnedEndW s (.returned v) u (Jvm.fieldLocs frame_1_writes args s ++ Jvm.arrayLocs frame_1_arrays args s ++ Jvm.staticLocs frame_1_statics s) 40 2240 → Post tb e args s (.returned v) u) :
    ArmFor flags0 classFile x code maxLocals ret World_1 tables_1 room_1 Calls_1 rest_1 Pre_1 Post := by
  intro l hfl _ _ p e ha hc hk s m args below hf hA hF happ hP
  obtain ⟨hcalls, hrest, hpre⟩ := hP
  obtain ⟨-, -, -, hnamed, -, -, -, hat⟩ := (Spec.applies_iff hf).mp happ
  obtain ⟨hg, hn⟩ := and_e (Cond.before_iff.mp (show (Jvm.Cond.and given_1 narrow_1).before args s = true from hpre))
  obtain ⟨gg1, gg2⟩ := and_e hg
  obtain ⟨gg3, gg4⟩ := and_e gg2
  obtain ⟨gg5, gg6⟩ := and_e gg4
  obtain ⟨gg7, gg8⟩ := and_e gg6
  obtain ⟨gg9, gg10⟩ := and_e gg8
  obtain ⟨w0, w1, w2, w3, w4, rfl⟩ : ∃ w0 w1 w2 w3 w4 : Value, args = #[w0, w1, w2, w3, w4] := by
    have hs : args.size = 5 := by simpa [Cond.value, given_1] using gg1
    obtain ⟨L⟩ := args
    match L, hs with
    | [w0, w1, w2, w3, w4], _ => exact ⟨w0, w1, w2, w3, w4, rfl⟩
  have hw := fun d (hd : d ∈ tables_1) => atoms_spec (ws := Jvm.Cond.code x code maxLocals ret :: tables_1) hat d (List.mem_cons_of_mem _ hd)
  have hfit : Fit s := fun {y c} hc i hi => by
    obtain ⟨ha, rfl⟩ := Array.getElem?_eq_some_iff.mp hc
    have q := List.all_eq_true.mp ((Array.all_eq_true_iff_forall_mem.mp hF) _ (Array.getElem_mem ha)) i (List.mem_range.mpr hi)
    simpa [Array.getElem?_eq_getElem hi] using q
  obtain ⟨hsets, hown0⟩ := atoms_of _ (rest_1_c_eq ▸ (show rest_1_c.before _ s = true from hrest))
  have hr0 := Cond.before_iff.mp hown0
  obtain ⟨i0, ei0⟩ := is_v gg3
  obtain rfl : w0 = (.int i0) := Option.some.inj ei0
  obtain ⟨i1, ei1⟩ := is_v gg5
  obtain rfl : w1 = (.int i1) := Option.some.inj ei1
  obtain ⟨i2, ei2⟩ := is_v gg7
  obtain rfl : w2 = (.int i2) := Option.some.inj ei2
  obtain ⟨i3, ei3⟩ := is_v gg9
  obtain rfl : w3 = (.int i3) := Option.some.inj ei3
  obtain ⟨i4, ei4⟩ := is_v gg10
  obtain rfl : w4 = (.int i4) := Option.some.inj ei4
  obtain ⟨cs, evcs⟩ := is_v (Cond.before_iff.mp (hsets _ (List.mem_of_getElem? (i := 1) rfl)))
  have hcs := Sta.start evcs (Or.inl (hsets _ (List.mem_of_getElem? (i := 0) rfl)))
  have hncs : ¬ (cs = (0 : Int32)) := own_ncs0 evcs (Cond.before_iff.mp (hsets _ (List.mem_of_getElem? (i := 2) rfl)))
  obtain ⟨fv, evfv, hrfv⟩ := isR_v (Cond.before_iff.mp (hsets _ (List.mem_of_getElem? (i := 8) rfl)))
  have hfv := Sta.start evfv (Or.inl (hsets _ (List.mem_of_getElem? (i := 7) rfl)))
  obtain ⟨em, evem⟩ := exa_v (Cond.before_iff.mp (hsets _ (List.mem_of_getElem? (i := 11) rfl)))
  have sem := Sta.start evem (Or.inl (hsets _ (List.mem_of_getElem? (i := 10) rfl)))
  have eem := Exa.start evem (Cond.before_iff.mp (hsets _ (List.mem_of_getElem? (i := 11) rfl)))
  have fem := Fld.start ((fld_at evem).symm.trans (null_v (Cond.before_iff.mp (hsets _ (List.mem_of_getElem? (i := 12) rfl)))))
  obtain ⟨n, o, h1, h2, h3, _, L, rfl, ⟨rfl, N⟩, -, hq⟩ := rm0 l s _ hw tables_1 i0 i1 i2 i3 i4 cs fv em s.heap s.heap.size (Nat.le_refl _) (Old.start s) hcs hncs hfv hrfv sem eem fem p e ha hc hk s m _ below hf ((Spec.applies_iff_loose hf).mp happ).1 ⟨rfl, State.Warmed39.refl s, rfl, CHv.start (own_EW hw) (fun p hp => hcalls.1 p (own_sub p hp)) (hsets _ (List.mem_of_getElem? (i := 2) rfl)) (jk hw 13 rfl) (jk hw 12 rfl), fun _ q => nomatch q⟩ trivial
  refine ⟨n, _, h1, h2, h3, hpost _ _ _ _ _ _ ⟨Cond.after_iff.mpr rfl, Cond.after_iff.mpr (eq_i res_at (Term.int_eval (1)) rfl), trivial⟩ ⟨hq.1, hq.2.1, hq.2.2.1, (hq.2.2.2.sift fun y hy => Or.inr (N y hy)).mono (by decide) (by decide)⟩⟩
theorem main_1_1 : Claimed_1_1 := comes_1 fun _ _ _ _ _ _ h hF => ⟨h.1, hF⟩
theorem main_1_2 : Claimed_1_2 := comes_1 fun _ _ _ _ _ _ h hF => ⟨h.2.1, hF⟩
end Jvm.Pilot.@@N@@
namespace Jvm.Pilot.@@N@@
open Jvm Jvm.ClassFile Sem Op Lib Jvm.Free Jvm.Stand Jvm.Pilot.@@N@@.Jvm.D
/-! MADE BY PROGRAM (witnessworld.py) out of the Statement's table words and the real class files: 23 classes; the members and pool entries that the words name. The judged class is class 1, her method 9. -/
namespace start1
open Jvm.ClassFile
def u (s : String) : CpInfo := .utf8 (stringToUtf16 s)
/-- a pool by its gaps: so many unusable entries, then the entry; so many at the end -/
def gap : Nat → List CpInfo → List CpInfo
  | 0, r => r
  | n + 1, r => .unusable :: gap n r
def poolList (es : List (Nat × CpInfo)) (last : Nat) : List CpInfo := es.foldr (fun e r => gap e.1 (e.2 :: r)) (gap last [])
def pool (es : List (Nat × CpInfo)) (last : Nat) : Array CpInfo := ⟨poolList es last⟩
def fileOf (pool : Array CpInfo) (this : Nat) (attrs : Array Attribute := #[]) (ms : Array MethodInfo := #[]) (fl : Nat := 33) (sup : Nat := 0) (ifs : Array Nat := #[]) (fds : Array FieldInfo := #[]) : ClassFile where
  minorVersion := 0
  majorVersion := 65
  constantPool := pool
  accessFlags := fl
  thisClass := this
  superClass := sup
  interfaces := ifs
  fields := fds
  methods := ms
  attributes := attrs
def plain (name : String) (sup : Option ClassId) : Class where
  name := name
  kind := .ordinary
  loader := none
  accessFlags := 33
  super := sup
  interfaces := #[]
  cf := none
  fields := #[]
  methods := #[]
  instanceTypes := #[]
  staticTypes := #[]
  resolved := #[]
  callSites := []
  init := .initialized
  statics := none
  mirror := none

def pool0 : Array CpInfo := pool [(5, u "<init>"), (0, u "()V"), (1, .class_ 10), (1, u "java/lang/Object")] 113

def k0c0 : Code := { maxStack := 0, maxLocals := 1, code := object_method_1_code, exceptionTable := #[], attributes := #[] }
def k0m0 : Method := { name := "<init>", desc := "()V", sig := { parameters := [], returnType := none }, accessFlags := 1, code := some k0c0 }
/-- java/lang/Object -/
def k0 : Class := { plain "java/lang/Object" none with
  accessFlags := 33
  interfaces := #[]
  cf := some (fileOf pool0 8 #[] #[{ accessFlags := 1, nameIndex := 5, descriptorIndex := 6, attributes := #[] }] 33 0 #[] #[])
  fields := #[]
  methods := #[k0m0]
  instanceTypes := #[]
  staticTypes := #[]
  resolved := Array.replicate 124 none
  statics := none }

def pool1 : Array CpInfo := pool [(2, .class_ 4), (1, u "java/lang/Object"), (0, u "<init>"), (0, u "()V"), (0, .string 8), (0, u "ABCDEFGHIJKLMNOPQRSTUVWXYZabcdefghijklmnopqrstuvwxyz0123456789._:-"), (0, .methodref 10 11), (0, .class_ 12), (0, .nameAndType 13 14), (0, u "java/lang/String"), (0, u "charAt"), (0, u "(I)C"), (0, .methodref 16 17), (0, .class_ 18), (0, .nameAndType 19 20), (0, u "com/example/waldrapp/waldrapp/IntentEqualsPinLaw"), (0, u "idC"), (0, u "(II)C"), (0, .methodref 16 22), (0, .nameAndType 23 24), (0, u "idLen"), (0, u "(I)I"), (0, .methodref 10 26), (0, .nameAndType 5 27), (0, u "([C)V"), (0, .methodref 16 29), (0, .nameAndType 30 24), (0, u "payLen"), (0, .methodref 16 32), (0, .nameAndType 33 20), (0, u "payC"), (0, .class_ 35), (0, u "com/example/waldrapp/waldrapp/Intent"), (0, .methodref 16 37), (0, .nameAndType 38 39), (0, u "idOf"), (0, u "(I)Ljava/lang/String;"), (0, .methodref 16 41), (0, .nameAndType 42 39), (0, u "payOf"), (0, .methodref 34 44), (0, .nameAndType 5 45), (0, u "(Ljava/lang/String;Ljava/lang/String;)V"), (0, .methodref 16 47), (0, .nameAndType 48 49), (0, u "idEq"), (0, u "(II)Z"), (0, .methodref 16 51), (0, .nameAndType 52 49), (0, u "payEq"), (0, .methodref 34 54), (0, .nameAndType 55 56), (0, u "equals"), (0, u "(Ljava/lang/Object;)Z"), (0, .methodref 34 58), (0, .nameAndType 59 60), (0, u "id"), (0, u "()Ljava/lang/String;"), (3, u "law"), (0, u "(IIIII)Z")] 2

def k1m0 : Method := { name := "<init>", desc := "()V", sig := { parameters := [], returnType := none }, accessFlags := 1, code := none }
def k1c1 : Code := { maxStack := 3, maxLocals := 4, code := method_2_code, exceptionTable := #[], attributes := #[] }
def k1m1 : Method := { name := "idC", desc := "(II)C", sig := { parameters := [.int, .int], returnType := some .char }, accessFlags := 10, code := some k1c1 }
def k1c2 : Code := { maxStack := 3, maxLocals := 1, code := method_3_code, exceptionTable := #[], attributes := #[] }
def k1m2 : Method := { name := "idLen", desc := "(I)I", sig := { parameters := [.int], returnType := some .int }, accessFlags := 10, code := some k1c2 }
def k1c3 : Code := { maxStack := 7, maxLocals := 2, code := method_4_code, exceptionTable := #[], attributes := #[] }
def k1m3 : Method := { name := "idOf", desc := "(I)Ljava/lang/String;", sig := { parameters := [.int], returnType := some (.object "java/lang/String") }, accessFlags := 10, code := some k1c3 }
def k1c4 : Code := { maxStack := 3, maxLocals := 4, code := method_5_code, exceptionTable := #[], attributes := #[] }
def k1m4 : Method := { name := "idEq", desc := "(II)Z", sig := { parameters := [.int, .int], returnType := some .boolean }, accessFlags := 10, code := some k1c4 }
def k1c5 : Code := { maxStack := 2, maxLocals := 1, code := method_6_code, exceptionTable := #[], attributes := #[] }
def k1m5 : Method := { name := "payLen", desc := "(I)I", sig := { parameters := [.int], returnType := some .int }, accessFlags := 10, code := some k1c5 }
def k1c6 : Code := { maxStack := 3, maxLocals := 3, code := method_7_code, exceptionTable := #[], attributes := #[] }
def k1m6 : Method := { name := "payC", desc := "(II)C", sig := { parameters := [.int, .int], returnType := some .char }, accessFlags := 10, code := some k1c6 }
def k1c7 : Code := { maxStack := 7, maxLocals := 2, code := method_8_code, exceptionTable := #[], attributes := #[] }
def k1m7 : Method := { name := "payOf", desc := "(I)Ljava/lang/String;", sig := { parameters := [.int], returnType := some (.object "java/lang/String") }, accessFlags := 10, code := some k1c7 }
def k1c8 : Code := { maxStack := 3, maxLocals := 4, code := method_9_code, exceptionTable := #[], attributes := #[] }
def k1m8 : Method := { name := "payEq", desc := "(II)Z", sig := { parameters := [.int, .int], returnType := some .boolean }, accessFlags := 10, code := some k1c8 }
def k1c9 : Code := { maxStack := 4, maxLocals := 10, code := code, exceptionTable := #[], attributes := #[] }
def k1m9 : Method := { name := "law", desc := "(IIIII)Z", sig := { parameters := [.int, .int, .int, .int, .int], returnType := some .boolean }, accessFlags := 9, code := some k1c9 }
/-- com/example/waldrapp/waldrapp/IntentEqualsPinLaw -/
def k1 : Class := { plain "com/example/waldrapp/waldrapp/IntentEqualsPinLaw" (some 0) with
  accessFlags := 49
  interfaces := #[]
  cf := some (fileOf pool1 16 #[] #[{ accessFlags := 1, nameIndex := 5, descriptorIndex := 6, attributes := #[] }, { accessFlags := 10, nameIndex := 19, descriptorIndex := 20, attributes := #[] }, { accessFlags := 10, nameIndex := 23, descriptorIndex := 24, attributes := #[] }, { accessFlags := 10, nameIndex := 38, descriptorIndex := 39, attributes := #[] }, { accessFlags := 10, nameIndex := 48, descriptorIndex := 49, attributes := #[] }, { accessFlags := 10, nameIndex := 30, descriptorIndex := 24, attributes := #[] }, { accessFlags := 10, nameIndex := 33, descriptorIndex := 20, attributes := #[] }, { accessFlags := 10, nameIndex := 42, descriptorIndex := 39, attributes := #[] }, { accessFlags := 10, nameIndex := 52, descriptorIndex := 49, attributes := #[] }, { accessFlags := 9, nameIndex := 64, descriptorIndex := 65, attributes := #[] }] 49 2 #[] #[])
  fields := #[]
  methods := #[k1m0, k1m1, k1m2, k1m3, k1m4, k1m5, k1m6, k1m7, k1m8, k1m9]
  instanceTypes := #[]
  staticTypes := #[]
  resolved := Array.replicate 68 none
  statics := none }

def pool2 : Array CpInfo := pool [(1, .methodref 2 3), (0, .class_ 4), (0, .nameAndType 5 6), (0, u "java/lang/Object"), (0, u "<init>"), (0, u "()V"), (0, .methodref 8 9), (0, .class_ 10), (0, .nameAndType 11 12), (0, u "com/example/waldrapp/waldrapp/Intent"), (0, u "isId"), (0, u "(Ljava/lang/String;)Z"), (7, .methodref 8 21), (0, .nameAndType 22 23), (0, u "payloadProblem"), (0, u "(Ljava/lang/String;)Ljava/util/Optional;"), (0, .methodref 25 26), (0, .class_ 27), (0, .nameAndType 28 29), (0, u "java/util/Optional"), (0, u "isPresent"), (0, u "()Z"), (4, .class_ 35), (0, u "java/lang/String"), (0, .fieldref 8 37), (0, .nameAndType 38 39), (0, u "id"), (0, u "Ljava/lang/String;"), (0, .fieldref 8 41), (0, .nameAndType 42 39), (0, u "payload"), (0, .methodref 34 44), (0, .nameAndType 45 46), (0, u "length"), (0, u "()I"), (0, .methodref 8 48), (0, .nameAndType 49 50), (0, u "utf8Length"), (0, u "(Ljava/lang/String;)I"), (0, .fieldref 8 52), (0, .nameAndType 53 54), (0, u "size"), (0, u "I"), (0, .methodref 34 56), (0, .nameAndType 57 29), (0, u "isEmpty"), (0, .methodref 34 59), (0, .nameAndType 60 61), (0, u "charAt"), (0, u "(I)C"), (0, .methodref 25 63), (0, .nameAndType 64 65), (0, u "empty"), (0, u "()Ljava/util/Optional;"), (0, .methodref 34 67), (0, .nameAndType 68 69), (0, u "indexOf"), (0, u "(I)I"), (8, .integer 65536), (44, u "()Ljava/lang/String;"), (5, .methodref 34 130), (0, .nameAndType 131 69), (0, u "codePointAt"), (0, .class_ 133), (0, u "java/lang/Character"), (0, .integer 55296), (0, .integer 57343), (0, .methodref 132 137), (0, .nameAndType 138 69), (0, u "charCount"), (0, .methodref 34 140), (0, .nameAndType 141 142), (0, u "equals"), (0, u "(Ljava/lang/Object;)Z"), (10, u "ID_RULE"), (3, u "MAX_PAYLOAD_BYTES"), (0, u "MAX_ID_LENGTH"), (1, u "NOT_UTF8"), (0, u "(Ljava/lang/String;Ljava/lang/String;)V")] 25

def k2c0 : Code := { maxStack := 3, maxLocals := 4, code := prog_14_method_1_code, exceptionTable := #[], attributes := #[] }
def k2m0 : Method := { name := "<init>", desc := "(Ljava/lang/String;Ljava/lang/String;)V", sig := { parameters := [(.object "java/lang/String"), (.object "java/lang/String")], returnType := none }, accessFlags := 0, code := some k2c0 }
def k2c1 : Code := { maxStack := 1, maxLocals := 1, code := prog_14_method_2_code, exceptionTable := #[], attributes := #[] }
def k2m1 : Method := { name := "id", desc := "()Ljava/lang/String;", sig := { parameters := [], returnType := some (.object "java/lang/String") }, accessFlags := 0, code := some k2c1 }
def k2c2 : Code := { maxStack := 2, maxLocals := 4, code := prog_14_method_5_code, exceptionTable := #[], attributes := #[] }
def k2m2 : Method := { name := "isId", desc := "(Ljava/lang/String;)Z", sig := { parameters := [(.object "java/lang/String")], returnType := some .boolean }, accessFlags := 8, code := some k2c2 }
def k2c3 : Code := { maxStack := 2, maxLocals := 3, code := prog_14_method_6_code, exceptionTable := #[], attributes := #[] }
def k2m3 : Method := { name := "payloadProblem", desc := "(Ljava/lang/String;)Ljava/util/Optional;", sig := { parameters := [(.object "java/lang/String")], returnType := some (.object "java/util/Optional") }, accessFlags := 8, code := some k2c3 }
def k2c4 : Code := { maxStack := 2, maxLocals := 4, code := prog_14_method_8_code, exceptionTable := #[], attributes := #[] }
def k2m4 : Method := { name := "utf8Length", desc := "(Ljava/lang/String;)I", sig := { parameters := [(.object "java/lang/String")], returnType := some .int }, accessFlags := 10, code := some k2c4 }
def k2c5 : Code := { maxStack := 2, maxLocals := 3, code := prog_14_method_9_code, exceptionTable := #[], attributes := #[] }
def k2m5 : Method := { name := "equals", desc := "(Ljava/lang/Object;)Z", sig := { parameters := [(.object "java/lang/Object")], returnType := some .boolean }, accessFlags := 1, code := some k2c5 }
/-- com/example/waldrapp/waldrapp/Intent -/
def k2 : Class := { plain "com/example/waldrapp/waldrapp/Intent" (some 0) with
  accessFlags := 32
  interfaces := #[]
  cf := some (fileOf pool2 8 #[] #[{ accessFlags := 0, nameIndex := 5, descriptorIndex := 161, attributes := #[] }, { accessFlags := 0, nameIndex := 38, descriptorIndex := 123, attributes := #[] }, { accessFlags := 8, nameIndex := 11, descriptorIndex := 12, attributes := #[] }, { accessFlags := 8, nameIndex := 22, descriptorIndex := 23, attributes := #[] }, { accessFlags := 10, nameIndex := 49, descriptorIndex := 50, attributes := #[] }, { accessFlags := 1, nameIndex := 141, descriptorIndex := 142, attributes := #[] }] 32 2 #[] #[{ accessFlags := 24, nameIndex := 153, descriptorIndex := 39, attributes := #[] }, { accessFlags := 24, nameIndex := 157, descriptorIndex := 54, attributes := #[] }, { accessFlags := 26, nameIndex := 158, descriptorIndex := 54, attributes := #[] }, { accessFlags := 26, nameIndex := 160, descriptorIndex := 39, attributes := #[] }, { accessFlags := 18, nameIndex := 38, descriptorIndex := 39, attributes := #[] }, { accessFlags := 18, nameIndex := 42, descriptorIndex := 39, attributes := #[] }, { accessFlags := 18, nameIndex := 53, descriptorIndex := 54, attributes := #[] }])
  fields := #[{ name := "ID_RULE", type := (.object "java/lang/String"), accessFlags := 24, slot := 0, constantValue := 0 }, { name := "MAX_PAYLOAD_BYTES", type := .int, accessFlags := 24, slot := 1, constantValue := 0 }, { name := "MAX_ID_LENGTH", type := .int, accessFlags := 26, slot := 2, constantValue := 0 }, { name := "NOT_UTF8", type := (.object "java/lang/String"), accessFlags := 26, slot := 3, constantValue := 0 }, { name := "id", type := (.object "java/lang/String"), accessFlags := 18, slot := 0, constantValue := 0 }, { name := "payload", type := (.object "java/lang/String"), accessFlags := 18, slot := 1, constantValue := 0 }, { name := "size", type := .int, accessFlags := 18, slot := 2, constantValue := 0 }]
  methods := #[k2m0, k2m1, k2m2, k2m3, k2m4, k2m5]
  instanceTypes := #[(.object "java/lang/String"), (.object "java/lang/String"), .int]
  staticTypes := #[(.object "java/lang/String"), .int, .int, (.object "java/lang/String")]
  resolved := Array.replicate 187 none
  statics := none }

def pool3 : Array CpInfo := pool [(1, .class_ 2), (0, u "java/io/Serializable"), (0, .class_ 4), (0, u "java/lang/Object")] 2

/-- java/io/Serializable -/
def k3 : Class := { plain "java/io/Serializable" (some 0) with
  accessFlags := 1537
  interfaces := #[]
  cf := some (fileOf pool3 1 #[] #[] 1537 3 #[] #[])
  fields := #[]
  methods := #[]
  instanceTypes := #[]
  staticTypes := #[]
  resolved := Array.replicate 7 none
  statics := none }

def pool4 : Array CpInfo := pool [(1, .class_ 2), (0, u "java/lang/Comparable"), (0, .class_ 4), (0, u "java/lang/Object")] 7

/-- java/lang/Comparable -/
def k4 : Class := { plain "java/lang/Comparable" (some 0) with
  accessFlags := 1537
  interfaces := #[]
  cf := some (fileOf pool4 1 #[] #[] 1537 3 #[] #[])
  fields := #[]
  methods := #[]
  instanceTypes := #[]
  staticTypes := #[]
  resolved := Array.replicate 12 none
  statics := none }

def pool5 : Array CpInfo := pool [(2, .class_ 4), (1, u "java/lang/CharSequence"), (42, .class_ 48), (0, u "java/lang/CharSequence$1CodePointIterator"), (10, .class_ 60), (0, u "java/lang/CharSequence$1CharIterator"), (5, .class_ 67), (0, u "java/lang/Object")] 63

/-- java/lang/CharSequence -/
def k5 : Class := { plain "java/lang/CharSequence" (some 0) with
  accessFlags := 1537
  interfaces := #[]
  cf := some (fileOf pool5 2 #[.nestMembers #[47, 59]] #[] 1537 66 #[] #[])
  fields := #[]
  methods := #[]
  instanceTypes := #[]
  staticTypes := #[]
  resolved := Array.replicate 131 none
  statics := none }

def pool6 : Array CpInfo := pool [(1, .class_ 2), (0, u "java/lang/constant/Constable"), (0, .class_ 4), (0, u "java/lang/Object")] 6

/-- java/lang/constant/Constable -/
def k6 : Class := { plain "java/lang/constant/Constable" (some 0) with
  accessFlags := 1537
  interfaces := #[]
  cf := some (fileOf pool6 1 #[] #[] 1537 3 #[] #[])
  fields := #[]
  methods := #[]
  instanceTypes := #[]
  staticTypes := #[]
  resolved := Array.replicate 11 none
  statics := none }

def pool7 : Array CpInfo := pool [(1, .class_ 2), (0, u "java/lang/constant/ConstantDesc"), (0, .class_ 4), (0, u "java/lang/Object")] 32

/-- java/lang/constant/ConstantDesc -/
def k7 : Class := { plain "java/lang/constant/ConstantDesc" (some 0) with
  accessFlags := 1537
  interfaces := #[]
  cf := some (fileOf pool7 1 #[] #[] 1537 3 #[] #[])
  fields := #[]
  methods := #[]
  instanceTypes := #[]
  staticTypes := #[]
  resolved := Array.replicate 37 none
  statics := none }

def pool8 : Array CpInfo := pool [(1, .methodref 2 3), (0, .class_ 4), (0, .nameAndType 5 6), (0, u "java/lang/Object"), (0, u "<init>"), (0, u "()V"), (0, .string 8), (0, u ""), (0, .fieldref 10 11), (0, .class_ 12), (0, .nameAndType 13 14), (0, u "java/lang/String"), (0, u "value"), (0, u "[B"), (0, .fieldref 10 16), (0, .nameAndType 17 18), (0, u "coder"), (0, u "B"), (2, u "hash"), (0, u "I"), (2, u "hashIsZero"), (0, u "Z"), (0, .methodref 10 28), (0, .nameAndType 5 29), (0, u "([CIILjava/lang/Void;)V"), (8, .fieldref 10 39), (0, .nameAndType 40 26), (0, u "COMPACT_STRINGS"), (1, .class_ 44), (1, u "java/lang/StringUTF16"), (0, u "compress"), (1, .methodref 42 48), (0, .nameAndType 49 50), (0, u "coderFromArrayLen"), (0, u "([BI)B"), (56, .class_ 109), (1, u "java/lang/StringLatin1"), (32, u "()Z"), (34, .methodref 42 178), (0, .nameAndType 45 179), (0, u "([CII)[B"), (154, u "()I"), (0, .methodref 10 336), (0, .nameAndType 17 337), (0, u "()B"), (25, u "([BI)C"), (27, u "(II)V"), (35, u "(I)C"), (64, .methodref 10 493), (0, .nameAndType 494 142), (0, u "isLatin1"), (0, .methodref 107 496), (0, .nameAndType 497 363), (0, u "charAt"), (1, .methodref 10 500), (0, .nameAndType 501 391), (0, u "checkIndex"), (2, u "codePointAt"), (0, .methodref 10 506), (0, .nameAndType 507 334), (0, u "length"), (33, .methodref 107 542), (0, .nameAndType 543 544), (0, u "equals"), (0, u "([B[B)Z"), (28, u "(Ljava/lang/Object;)Z"), (1, .class_ 576), (0, u "java/lang/CharSequence"), (22, u "CASE_INSENSITIVE_ORDER"), (0, u "Ljava/util/Comparator;"), (32, .methodref 10 634), (0, .nameAndType 635 636), (0, u "indexOf"), (0, u "(II)I"), (0, .methodref 107 638), (0, .nameAndType 635 639), (0, u "([BIII)I"), (52, u "isEmpty"), (72, u "(I)I"), (244, u "([C)V"), (42, .fieldref 1054 1055), (0, .class_ 1056), (0, .nameAndType 1057 1058), (0, u "jdk/internal/util/Preconditions"), (0, u "SIOOBE_FORMATTER"), (0, u "Ljava/util/function/BiFunction;"), (0, .methodref 1054 1060), (0, .nameAndType 501 1061), (0, u "(IILjava/util/function/BiFunction;)I"), (39, u "serialPersistentFields"), (0, u "[Ljava/io/ObjectStreamField;"), (0, .class_ 1104), (0, u "java/lang/String$CaseInsensitiveComparator"), (1, .class_ 1107), (0, u "java/io/Serializable"), (0, .class_ 1109), (0, u "java/lang/Comparable"), (0, .class_ 1111), (0, u "java/lang/constant/Constable"), (0, .class_ 1113), (0, u "java/lang/constant/ConstantDesc"), (2, u "serialVersionUID"), (0, u "J"), (3, u "REPL"), (0, u "C"), (2, u "LATIN1"), (1, u "UTF16")] 323

def k8m0 : Method := { name := "<init>", desc := "()V", sig := { parameters := [], returnType := none }, accessFlags := 1, code := none }
def k8c1 : Code := { maxStack := 5, maxLocals := 2, code := jdk_42_method_3_code, exceptionTable := #[], attributes := #[] }
def k8m1 : Method := { name := "<init>", desc := "([C)V", sig := { parameters := [(.array .char)], returnType := none }, accessFlags := 1, code := some k8c1 }
def k8c2 : Code := { maxStack := 2, maxLocals := 1, code := jdk_42_method_54_code, exceptionTable := #[], attributes := #[] }
def k8m2 : Method := { name := "length", desc := "()I", sig := { parameters := [], returnType := some .int }, accessFlags := 1, code := some k8c2 }
def k8c3 : Code := { maxStack := 1, maxLocals := 1, code := jdk_42_method_55_code, exceptionTable := #[], attributes := #[] }
def k8m3 : Method := { name := "isEmpty", desc := "()Z", sig := { parameters := [], returnType := some .boolean }, accessFlags := 1, code := some k8c3 }
def k8c4 : Code := { maxStack := 2, maxLocals := 2, code := jdk_42_method_56_code, exceptionTable := #[], attributes := #[] }
def k8m4 : Method := { name := "charAt", desc := "(I)C", sig := { parameters := [.int], returnType := some .char }, accessFlags := 1, code := some k8c4 }
def k8c5 : Code := { maxStack := 3, maxLocals := 3, code := jdk_42_method_57_code, exceptionTable := #[], attributes := #[] }
def k8m5 : Method := { name := "codePointAt", desc := "(I)I", sig := { parameters := [.int], returnType := some .int }, accessFlags := 1, code := some k8c5 }
def k8c6 : Code := { maxStack := 2, maxLocals := 3, code := jdk_42_method_66_code, exceptionTable := #[], attributes := #[] }
def k8m6 : Method := { name := "equals", desc := "(Ljava/lang/Object;)Z", sig := { parameters := [(.object "java/lang/Object")], returnType := some .boolean }, accessFlags := 1, code := some k8c6 }
def k8c7 : Code := { maxStack := 3, maxLocals := 2, code := jdk_42_method_79_code, exceptionTable := #[], attributes := #[] }
def k8m7 : Method := { name := "indexOf", desc := "(I)I", sig := { parameters := [.int], returnType := some .int }, accessFlags := 1, code := some k8c7 }
def k8c8 : Code := { maxStack := 4, maxLocals := 3, code := jdk_42_method_80_code, exceptionTable := #[], attributes := #[] }
def k8m8 : Method := { name := "indexOf", desc := "(II)I", sig := { parameters := [.int, .int], returnType := some .int }, accessFlags := 1, code := some k8c8 }
def k8c9 : Code := { maxStack := 4, maxLocals := 6, code := jdk_42_method_149_code, exceptionTable := #[], attributes := #[] }
def k8m9 : Method := { name := "<init>", desc := "([CIILjava/lang/Void;)V", sig := { parameters := [(.array .char), .int, .int, (.object "java/lang/Void")], returnType := none }, accessFlags := 2, code := some k8c9 }
def k8c10 : Code := { maxStack := 1, maxLocals := 1, code := jdk_42_method_152_code, exceptionTable := #[], attributes := #[] }
def k8m10 : Method := { name := "coder", desc := "()B", sig := { parameters := [], returnType := some .byte }, accessFlags := 0, code := some k8c10 }
def k8c11 : Code := { maxStack := 1, maxLocals := 1, code := jdk_42_method_154_code, exceptionTable := #[], attributes := #[] }
def k8m11 : Method := { name := "isLatin1", desc := "()Z", sig := { parameters := [], returnType := some .boolean }, accessFlags := 0, code := some k8c11 }
def k8c12 : Code := { maxStack := 3, maxLocals := 2, code := jdk_42_method_155_code, exceptionTable := #[], attributes := #[] }
def k8m12 : Method := { name := "checkIndex", desc := "(II)V", sig := { parameters := [.int, .int], returnType := none }, accessFlags := 8, code := some k8c12 }
/-- java/lang/String -/
def k8 : Class := { plain "java/lang/String" (some 0) with
  accessFlags := 49
  interfaces := #[3, 4, 5, 6, 7]
  cf := some (fileOf pool8 10 #[.nestMembers #[1103]] #[{ accessFlags := 1, nameIndex := 5, descriptorIndex := 6, attributes := #[] }, { accessFlags := 1, nameIndex := 5, descriptorIndex := 1010, attributes := #[] }, { accessFlags := 1, nameIndex := 507, descriptorIndex := 334, attributes := #[] }, { accessFlags := 1, nameIndex := 692, descriptorIndex := 142, attributes := #[] }, { accessFlags := 1, nameIndex := 497, descriptorIndex := 427, attributes := #[] }, { accessFlags := 1, nameIndex := 504, descriptorIndex := 765, attributes := #[] }, { accessFlags := 1, nameIndex := 543, descriptorIndex := 573, attributes := #[] }, { accessFlags := 1, nameIndex := 635, descriptorIndex := 765, attributes := #[] }, { accessFlags := 1, nameIndex := 635, descriptorIndex := 636, attributes := #[] }, { accessFlags := 2, nameIndex := 5, descriptorIndex := 29, attributes := #[] }, { accessFlags := 0, nameIndex := 17, descriptorIndex := 337, attributes := #[] }, { accessFlags := 0, nameIndex := 494, descriptorIndex := 142, attributes := #[] }, { accessFlags := 8, nameIndex := 501, descriptorIndex := 391, attributes := #[] }] 49 2 #[1106, 1108, 575, 1110, 1112] #[{ accessFlags := 18, nameIndex := 13, descriptorIndex := 14, attributes := #[] }, { accessFlags := 18, nameIndex := 17, descriptorIndex := 18, attributes := #[] }, { accessFlags := 2, nameIndex := 21, descriptorIndex := 22, attributes := #[] }, { accessFlags := 2, nameIndex := 25, descriptorIndex := 26, attributes := #[] }, { accessFlags := 26, nameIndex := 1116, descriptorIndex := 1117, attributes := #[] }, { accessFlags := 24, nameIndex := 40, descriptorIndex := 26, attributes := #[] }, { accessFlags := 26, nameIndex := 1101, descriptorIndex := 1102, attributes := #[] }, { accessFlags := 26, nameIndex := 1121, descriptorIndex := 1122, attributes := #[] }, { accessFlags := 25, nameIndex := 599, descriptorIndex := 600, attributes := #[] }, { accessFlags := 24, nameIndex := 1125, descriptorIndex := 18, attributes := #[] }, { accessFlags := 24, nameIndex := 1127, descriptorIndex := 18, attributes := #[] }])
  fields := #[{ name := "value", type := (.array .byte), accessFlags := 18, slot := 0, constantValue := 0 }, { name := "coder", type := .byte, accessFlags := 18, slot := 1, constantValue := 0 }, { name := "hash", type := .int, accessFlags := 2, slot := 2, constantValue := 0 }, { name := "hashIsZero", type := .boolean, accessFlags := 2, slot := 3, constantValue := 0 }, { name := "serialVersionUID", type := .long, accessFlags := 26, slot := 0, constantValue := 0 }, { name := "COMPACT_STRINGS", type := .boolean, accessFlags := 24, slot := 1, constantValue := 0 }, { name := "serialPersistentFields", type := (.array (.object "java/io/ObjectStreamField")), accessFlags := 26, slot := 2, constantValue := 0 }, { name := "REPL", type := .char, accessFlags := 26, slot := 3, constantValue := 0 }, { name := "CASE_INSENSITIVE_ORDER", type := (.object "java/util/Comparator"), accessFlags := 25, slot := 4, constantValue := 0 }, { name := "LATIN1", type := .byte, accessFlags := 24, slot := 5, constantValue := 0 }, { name := "UTF16", type := .byte, accessFlags := 24, slot := 6, constantValue := 0 }]
  methods := #[k8m0, k8m1, k8m2, k8m3, k8m4, k8m5, k8m6, k8m7, k8m8, k8m9, k8m10, k8m11, k8m12]
  instanceTypes := #[(.array .byte), .byte, .int, .boolean]
  staticTypes := #[.long, .boolean, (.array (.object "java/io/ObjectStreamField")), .char, (.object "java/util/Comparator"), .byte, .byte]
  resolved := Array.replicate 1451 none
  statics := some 0 }

def pool9 : Array CpInfo := pool [(1, .class_ 2), (0, u "java/lang/String"), (1, .class_ 6), (1, u "java/lang/Object"), (0, u "<init>"), (0, u "()V"), (0, .methodref 1 10), (0, .nameAndType 11 12), (0, u "checkIndex"), (0, u "(II)V"), (1, .class_ 16), (1, u "java/lang/StringLatin1"), (21, .methodref 39 40), (0, .class_ 41), (0, .nameAndType 42 43), (0, u "java/lang/Math"), (0, u "min"), (0, u "(II)I"), (9, u "([BI)C"), (34, .methodref 14 89), (0, .nameAndType 90 91), (0, u "canEncode"), (0, u "(I)Z"), (0, .methodref 39 93), (0, .nameAndType 94 43), (0, u "max"), (0, .methodref 14 96), (0, .nameAndType 97 98), (0, u "indexOfChar"), (0, u "([BIII)I"), (2, u "indexOf"), (19, u "$assertionsDisabled"), (0, u "Z"), (98, .class_ 223), (1, u "java/lang/StringLatin1$LinesSpliterator"), (28, u "charAt"), (28, u "equals"), (0, u "([B[B)Z"), (107, .class_ 391), (0, u "java/lang/StringLatin1$CharsSpliterator")] 3

def k9m0 : Method := { name := "<init>", desc := "()V", sig := { parameters := [], returnType := none }, accessFlags := 0, code := none }
def k9c1 : Code := { maxStack := 2, maxLocals := 2, code := jdk_43_method_2_code, exceptionTable := #[], attributes := #[] }
def k9m1 : Method := { name := "charAt", desc := "([BI)C", sig := { parameters := [(.array .byte), .int], returnType := some .char }, accessFlags := 9, code := some k9c1 }
def k9c2 : Code := { maxStack := 2, maxLocals := 1, code := jdk_43_method_4_code, exceptionTable := #[], attributes := #[] }
def k9m2 : Method := { name := "canEncode", desc := "(I)Z", sig := { parameters := [.int], returnType := some .boolean }, accessFlags := 9, code := some k9c2 }
def k9c3 : Code := { maxStack := 3, maxLocals := 3, code := jdk_43_method_13_code, exceptionTable := #[], attributes := #[] }
def k9m3 : Method := { name := "equals", desc := "([B[B)Z", sig := { parameters := [(.array .byte), (.array .byte)], returnType := some .boolean }, accessFlags := 9, code := some k9c3 }
def k9c4 : Code := { maxStack := 4, maxLocals := 4, code := jdk_43_method_22_code, exceptionTable := #[], attributes := #[] }
def k9m4 : Method := { name := "indexOf", desc := "([BIII)I", sig := { parameters := [(.array .byte), .int, .int, .int], returnType := some .int }, accessFlags := 9, code := some k9c4 }
def k9c5 : Code := { maxStack := 2, maxLocals := 6, code := jdk_43_method_23_code, exceptionTable := #[], attributes := #[] }
def k9m5 : Method := { name := "indexOfChar", desc := "([BIII)I", sig := { parameters := [(.array .byte), .int, .int, .int], returnType := some .int }, accessFlags := 10, code := some k9c5 }
/-- java/lang/StringLatin1 -/
def k9 : Class := { plain "java/lang/StringLatin1" (some 0) with
  accessFlags := 48
  interfaces := #[]
  cf := some (fileOf pool9 14 #[.nestMembers #[390, 221]] #[{ accessFlags := 0, nameIndex := 7, descriptorIndex := 8, attributes := #[] }, { accessFlags := 9, nameIndex := 252, descriptorIndex := 53, attributes := #[] }, { accessFlags := 9, nameIndex := 90, descriptorIndex := 91, attributes := #[] }, { accessFlags := 9, nameIndex := 281, descriptorIndex := 282, attributes := #[] }, { accessFlags := 9, nameIndex := 101, descriptorIndex := 98, attributes := #[] }, { accessFlags := 10, nameIndex := 97, descriptorIndex := 98, attributes := #[] }] 48 4 #[] #[{ accessFlags := 4120, nameIndex := 121, descriptorIndex := 122, attributes := #[] }])
  fields := #[{ name := "$assertionsDisabled", type := .boolean, accessFlags := 4120, slot := 0, constantValue := 0 }]
  methods := #[k9m0, k9m1, k9m2, k9m3, k9m4, k9m5]
  instanceTypes := #[]
  staticTypes := #[.boolean]
  resolved := Array.replicate 395 none
  statics := none }

def pool10 : Array CpInfo := pool [(2, .class_ 4), (1, u "java/lang/Object"), (0, u "<init>"), (0, u "()V"), (17, .class_ 26), (1, u "jdk/internal/util/Preconditions"), (6, u "checkIndex"), (21, .class_ 56), (0, u "jdk/internal/util/Preconditions$4"), (57, .class_ 115), (0, u "jdk/internal/util/Preconditions$1"), (7, u "SIOOBE_FORMATTER"), (0, u "Ljava/util/function/BiFunction;"), (0, .class_ 126), (0, u "jdk/internal/util/Preconditions$2"), (3, u "AIOOBE_FORMATTER"), (0, .class_ 132), (0, u "jdk/internal/util/Preconditions$3"), (3, u "IOOBE_FORMATTER"), (41, u "(IILjava/util/function/BiFunction;)I")] 15

def k10m0 : Method := { name := "<init>", desc := "()V", sig := { parameters := [], returnType := none }, accessFlags := 1, code := none }
def k10c1 : Code := { maxStack := 3, maxLocals := 3, code := jdk_41_method_11_code, exceptionTable := #[], attributes := #[] }
def k10m1 : Method := { name := "checkIndex", desc := "(IILjava/util/function/BiFunction;)I", sig := { parameters := [.int, .int, (.object "java/util/function/BiFunction")], returnType := some .int }, accessFlags := 9, code := some k10c1 }
/-- jdk/internal/util/Preconditions -/
def k10 : Class := { plain "jdk/internal/util/Preconditions" (some 0) with
  accessFlags := 33
  interfaces := #[]
  cf := some (fileOf pool10 24 #[.nestMembers #[55, 131, 125, 114]] #[{ accessFlags := 1, nameIndex := 5, descriptorIndex := 6, attributes := #[] }, { accessFlags := 9, nameIndex := 33, descriptorIndex := 178, attributes := #[] }] 33 2 #[] #[{ accessFlags := 25, nameIndex := 123, descriptorIndex := 124, attributes := #[] }, { accessFlags := 25, nameIndex := 130, descriptorIndex := 124, attributes := #[] }, { accessFlags := 25, nameIndex := 136, descriptorIndex := 124, attributes := #[] }])
  fields := #[{ name := "SIOOBE_FORMATTER", type := (.object "java/util/function/BiFunction"), accessFlags := 25, slot := 0, constantValue := 0 }, { name := "AIOOBE_FORMATTER", type := (.object "java/util/function/BiFunction"), accessFlags := 25, slot := 1, constantValue := 0 }, { name := "IOOBE_FORMATTER", type := (.object "java/util/function/BiFunction"), accessFlags := 25, slot := 2, constantValue := 0 }]
  methods := #[k10m0, k10m1]
  instanceTypes := #[]
  staticTypes := #[(.object "java/util/function/BiFunction"), (.object "java/util/function/BiFunction"), (.object "java/util/function/BiFunction")]
  resolved := Array.replicate 194 none
  statics := some 1 }

def pool11 : Array CpInfo := pool [(6, .class_ 8), (1, u "java/lang/Object"), (0, u "<init>"), (0, u "()V"), (1, .class_ 14), (1, u "java/lang/StringUTF16"), (31, u "$assertionsDisabled"), (0, u "Z"), (13, u "HI_BYTE_SHIFT"), (0, u "I"), (2, u "LO_BYTE_SHIFT"), (49, .methodref 12 116), (0, .nameAndType 117 118), (0, u "compress"), (0, u "([CI[BII)I"), (3, u "([CII)[B"), (138, u "coderFromArrayLen"), (0, u "([BI)B"), (106, .class_ 371), (1, u "java/lang/StringUTF16$LinesSpliterator"), (58, u "MAX_LENGTH"), (196, .class_ 628), (0, u "java/lang/StringUTF16$CodePointsSpliterator"), (0, .class_ 630), (0, u "java/lang/StringUTF16$CharsSpliterator")] 4

def k11m0 : Method := { name := "<init>", desc := "()V", sig := { parameters := [], returnType := none }, accessFlags := 0, code := none }
def k11c1 : Code := { maxStack := 2, maxLocals := 2, code := jdk_52_method_15_code, exceptionTable := #[], attributes := #[] }
def k11m1 : Method := { name := "coderFromArrayLen", desc := "([BI)B", sig := { parameters := [(.array .byte), .int], returnType := some .byte }, accessFlags := 8, code := some k11c1 }
def k11c2 : Code := { maxStack := 5, maxLocals := 6, code := jdk_52_method_16_code, exceptionTable := #[], attributes := #[] }
def k11m2 : Method := { name := "compress", desc := "([CII)[B", sig := { parameters := [(.array .char), .int, .int], returnType := some (.array .byte) }, accessFlags := 9, code := some k11c2 }
def k11c3 : Code := { maxStack := 3, maxLocals := 7, code := jdk_52_method_21_code, exceptionTable := #[], attributes := #[] }
def k11m3 : Method := { name := "compress", desc := "([CI[BII)I", sig := { parameters := [(.array .char), .int, (.array .byte), .int, .int], returnType := some .int }, accessFlags := 9, code := some k11c3 }
/-- java/lang/StringUTF16 -/
def k11 : Class := { plain "java/lang/StringUTF16" (some 0) with
  accessFlags := 48
  interfaces := #[]
  cf := some (fileOf pool11 12 #[.nestMembers #[627, 629, 369]] #[{ accessFlags := 0, nameIndex := 9, descriptorIndex := 10, attributes := #[] }, { accessFlags := 8, nameIndex := 261, descriptorIndex := 262, attributes := #[] }, { accessFlags := 9, nameIndex := 117, descriptorIndex := 122, attributes := #[] }, { accessFlags := 9, nameIndex := 117, descriptorIndex := 118, attributes := #[] }] 48 6 #[] #[{ accessFlags := 26, nameIndex := 61, descriptorIndex := 62, attributes := #[] }, { accessFlags := 26, nameIndex := 65, descriptorIndex := 62, attributes := #[] }, { accessFlags := 24, nameIndex := 430, descriptorIndex := 62, attributes := #[] }, { accessFlags := 4120, nameIndex := 46, descriptorIndex := 47, attributes := #[] }])
  fields := #[{ name := "HI_BYTE_SHIFT", type := .int, accessFlags := 26, slot := 0, constantValue := 0 }, { name := "LO_BYTE_SHIFT", type := .int, accessFlags := 26, slot := 1, constantValue := 0 }, { name := "MAX_LENGTH", type := .int, accessFlags := 24, slot := 2, constantValue := 0 }, { name := "$assertionsDisabled", type := .boolean, accessFlags := 4120, slot := 3, constantValue := 0 }]
  methods := #[k11m0, k11m1, k11m2, k11m3]
  instanceTypes := #[]
  staticTypes := #[.int, .int, .int, .boolean]
  resolved := Array.replicate 635 none
  statics := none }

def pool12 : Array CpInfo := pool [(1, .fieldref 2 3), (0, .class_ 4), (0, .nameAndType 5 6), (0, u "java/util/Optional"), (0, u "EMPTY"), (0, u "Ljava/util/Optional;"), (1, .class_ 10), (1, u "java/lang/Object"), (2, .fieldref 2 14), (0, .nameAndType 15 16), (0, u "value"), (0, u "Ljava/lang/Object;"), (29, u "()Z"), (8, u "empty"), (0, u "()Ljava/util/Optional;"), (11, u "isPresent")] 118

def k12c0 : Code := { maxStack := 1, maxLocals := 1, code := jdk_32_method_1_code, exceptionTable := #[], attributes := #[] }
def k12m0 : Method := { name := "empty", desc := "()Ljava/util/Optional;", sig := { parameters := [], returnType := some (.object "java/util/Optional") }, accessFlags := 9, code := some k12c0 }
def k12c1 : Code := { maxStack := 1, maxLocals := 1, code := jdk_32_method_6_code, exceptionTable := #[], attributes := #[] }
def k12m1 : Method := { name := "isPresent", desc := "()Z", sig := { parameters := [], returnType := some .boolean }, accessFlags := 1, code := some k12c1 }
/-- java/util/Optional -/
def k12 : Class := { plain "java/util/Optional" (some 0) with
  accessFlags := 49
  interfaces := #[]
  cf := some (fileOf pool12 2 #[] #[{ accessFlags := 9, nameIndex := 55, descriptorIndex := 56, attributes := #[] }, { accessFlags := 1, nameIndex := 68, descriptorIndex := 46, attributes := #[] }] 49 8 #[] #[{ accessFlags := 26, nameIndex := 5, descriptorIndex := 6, attributes := #[] }, { accessFlags := 18, nameIndex := 15, descriptorIndex := 16, attributes := #[] }])
  fields := #[{ name := "EMPTY", type := (.object "java/util/Optional"), accessFlags := 26, slot := 0, constantValue := 0 }, { name := "value", type := (.object "java/lang/Object"), accessFlags := 18, slot := 0, constantValue := 0 }]
  methods := #[k12m0, k12m1]
  instanceTypes := #[(.object "java/lang/Object")]
  staticTypes := #[(.object "java/util/Optional")]
  resolved := Array.replicate 187 none
  statics := some 2 }

def pool13 : Array CpInfo := pool [(1, .class_ 2), (0, u "java/lang/Math"), (1, .class_ 6), (1, u "java/lang/Object"), (0, u "<init>"), (0, u "()V"), (89, .class_ 100), (1, u "java/lang/Math$RandomNumberGeneratorHolder"), (71, u "negativeZeroFloatBits"), (0, u "J"), (2, u "negativeZeroDoubleBits"), (21, u "max"), (2, u "min"), (43, u "$assertionsDisabled"), (0, u "Z"), (88, u "(II)I"), (2, u "twoToTheDoubleScaleDown"), (0, u "D"), (4, u "twoToTheDoubleScaleUp"), (9, u "E"), (3, u "PI"), (2, u "TAU"), (2, u "DEGREES_TO_RADIANS"), (0, u "RADIANS_TO_DEGREES")] 94

def k13m0 : Method := { name := "<init>", desc := "()V", sig := { parameters := [], returnType := none }, accessFlags := 2, code := none }
def k13c1 : Code := { maxStack := 2, maxLocals := 2, code := jdk_29_method_65_code, exceptionTable := #[], attributes := #[] }
def k13m1 : Method := { name := "max", desc := "(II)I", sig := { parameters := [.int, .int], returnType := some .int }, accessFlags := 9, code := some k13c1 }
def k13c2 : Code := { maxStack := 2, maxLocals := 2, code := jdk_29_method_69_code, exceptionTable := #[], attributes := #[] }
def k13m2 : Method := { name := "min", desc := "(II)I", sig := { parameters := [.int, .int], returnType := some .int }, accessFlags := 9, code := some k13c2 }
/-- java/lang/Math -/
def k13 : Class := { plain "java/lang/Math" (some 0) with
  accessFlags := 49
  interfaces := #[]
  cf := some (fileOf pool13 1 #[.nestMembers #[98]] #[{ accessFlags := 2, nameIndex := 7, descriptorIndex := 8, attributes := #[] }, { accessFlags := 9, nameIndex := 198, descriptorIndex := 335, attributes := #[] }, { accessFlags := 9, nameIndex := 201, descriptorIndex := 335, attributes := #[] }] 49 4 #[] #[{ accessFlags := 25, nameIndex := 354, descriptorIndex := 339, attributes := #[] }, { accessFlags := 25, nameIndex := 358, descriptorIndex := 339, attributes := #[] }, { accessFlags := 25, nameIndex := 361, descriptorIndex := 339, attributes := #[] }, { accessFlags := 26, nameIndex := 364, descriptorIndex := 339, attributes := #[] }, { accessFlags := 26, nameIndex := 365, descriptorIndex := 339, attributes := #[] }, { accessFlags := 26, nameIndex := 172, descriptorIndex := 173, attributes := #[] }, { accessFlags := 26, nameIndex := 176, descriptorIndex := 173, attributes := #[] }, { accessFlags := 8, nameIndex := 344, descriptorIndex := 339, attributes := #[] }, { accessFlags := 8, nameIndex := 338, descriptorIndex := 339, attributes := #[] }, { accessFlags := 4120, nameIndex := 245, descriptorIndex := 246, attributes := #[] }])
  fields := #[{ name := "E", type := .double, accessFlags := 25, slot := 0, constantValue := 0 }, { name := "PI", type := .double, accessFlags := 25, slot := 1, constantValue := 0 }, { name := "TAU", type := .double, accessFlags := 25, slot := 2, constantValue := 0 }, { name := "DEGREES_TO_RADIANS", type := .double, accessFlags := 26, slot := 3, constantValue := 0 }, { name := "RADIANS_TO_DEGREES", type := .double, accessFlags := 26, slot := 4, constantValue := 0 }, { name := "negativeZeroFloatBits", type := .long, accessFlags := 26, slot := 5, constantValue := 0 }, { name := "negativeZeroDoubleBits", type := .long, accessFlags := 26, slot := 6, constantValue := 0 }, { name := "twoToTheDoubleScaleUp", type := .double, accessFlags := 8, slot := 7, constantValue := 0 }, { name := "twoToTheDoubleScaleDown", type := .double, accessFlags := 8, slot := 8, constantValue := 0 }, { name := "$assertionsDisabled", type := .boolean, accessFlags := 4120, slot := 9, constantValue := 0 }]
  methods := #[k13m0, k13m1, k13m2]
  instanceTypes := #[]
  staticTypes := #[.double, .double, .double, .double, .double, .long, .long, .double, .double, .boolean]
  resolved := Array.replicate 460 none
  statics := none }

def pool14 : Array CpInfo := pool [(1, .class_ 2), (0, u "java/lang/Character"), (18, u "value"), (0, u "C"), (19, .class_ 44), (1, u "java/lang/Object"), (3, .class_ 50), (1, u "java/lang/Character$CharacterCache"), (22, .integer 65536), (100, u "(I)I"), (109, u "$assertionsDisabled"), (0, u "Z"), (21, .class_ 309), (1, u "java/lang/Character$UnicodeBlock"), (73, u "TYPE"), (0, u "Ljava/lang/Class;"), (0, .class_ 386), (0, u "java/io/Serializable"), (0, .class_ 388), (0, u "java/lang/Comparable"), (0, .class_ 390), (0, u "java/lang/constant/Constable"), (0, u "MIN_RADIX"), (0, u "I"), (2, u "MAX_RADIX"), (1, u "MIN_VALUE"), (1, u "MAX_VALUE"), (3, u "UNASSIGNED"), (0, u "B"), (0, u "UPPERCASE_LETTER"), (1, u "LOWERCASE_LETTER"), (0, u "TITLECASE_LETTER"), (1, u "MODIFIER_LETTER"), (1, u "OTHER_LETTER"), (1, u "NON_SPACING_MARK"), (1, u "ENCLOSING_MARK"), (1, u "COMBINING_SPACING_MARK"), (1, u "DECIMAL_DIGIT_NUMBER"), (1, u "LETTER_NUMBER"), (1, u "OTHER_NUMBER"), (1, u "SPACE_SEPARATOR"), (1, u "LINE_SEPARATOR"), (1, u "PARAGRAPH_SEPARATOR"), (1, u "CONTROL"), (1, u "FORMAT"), (1, u "PRIVATE_USE"), (1, u "SURROGATE"), (1, u "DASH_PUNCTUATION"), (1, u "START_PUNCTUATION"), (1, u "END_PUNCTUATION"), (1, u "CONNECTOR_PUNCTUATION"), (1, u "OTHER_PUNCTUATION"), (1, u "MATH_SYMBOL"), (1, u "CURRENCY_SYMBOL"), (1, u "MODIFIER_SYMBOL"), (1, u "OTHER_SYMBOL"), (1, u "INITIAL_QUOTE_PUNCTUATION"), (1, u "FINAL_QUOTE_PUNCTUATION"), (1, u "ERROR"), (1, u "DIRECTIONALITY_UNDEFINED"), (0, u "DIRECTIONALITY_LEFT_TO_RIGHT"), (0, u "DIRECTIONALITY_RIGHT_TO_LEFT"), (0, u "DIRECTIONALITY_RIGHT_TO_LEFT_ARABIC"), (0, u "DIRECTIONALITY_EUROPEAN_NUMBER"), (0, u "DIRECTIONALITY_EUROPEAN_NUMBER_SEPARATOR"), (0, u "DIRECTIONALITY_EUROPEAN_NUMBER_TERMINATOR"), (0, u "DIRECTIONALITY_ARABIC_NUMBER"), (0, u "DIRECTIONALITY_COMMON_NUMBER_SEPARATOR"), (0, u "DIRECTIONALITY_NONSPACING_MARK"), (0, u "DIRECTIONALITY_BOUNDARY_NEUTRAL"), (0, u "DIRECTIONALITY_PARAGRAPH_SEPARATOR"), (0, u "DIRECTIONALITY_SEGMENT_SEPARATOR"), (0, u "DIRECTIONALITY_WHITESPACE"), (0, u "DIRECTIONALITY_OTHER_NEUTRALS"), (0, u "DIRECTIONALITY_LEFT_TO_RIGHT_EMBEDDING"), (0, u "DIRECTIONALITY_LEFT_TO_RIGHT_OVERRIDE"), (0, u "DIRECTIONALITY_RIGHT_TO_LEFT_EMBEDDING"), (0, u "DIRECTIONALITY_RIGHT_TO_LEFT_OVERRIDE"), (1, u "DIRECTIONALITY_POP_DIRECTIONAL_FORMAT"), (0, u "DIRECTIONALITY_LEFT_TO_RIGHT_ISOLATE"), (0, u "DIRECTIONALITY_RIGHT_TO_LEFT_ISOLATE"), (0, u "DIRECTIONALITY_FIRST_STRONG_ISOLATE"), (0, u "DIRECTIONALITY_POP_DIRECTIONAL_ISOLATE"), (0, u "MIN_HIGH_SURROGATE"), (0, u "MAX_HIGH_SURROGATE"), (1, u "MIN_LOW_SURROGATE"), (0, u "MAX_LOW_SURROGATE"), (1, u "MIN_SURROGATE"), (0, u "MAX_SURROGATE"), (0, u "MIN_SUPPLEMENTARY_CODE_POINT"), (0, u "MIN_CODE_POINT"), (0, u "MAX_CODE_POINT"), (1, u "serialVersionUID"), (0, u "J"), (2, u "SIZE"), (0, u "BYTES"), (29, u "charCount"), (58, .class_ 596), (0, u "java/lang/Character$UnicodeScript"), (0, .class_ 598), (0, u "java/lang/Character$Subset")] 5

def k14c0 : Code := { maxStack := 2, maxLocals := 1, code := jdk_89_method_18_code, exceptionTable := #[], attributes := #[] }
def k14m0 : Method := { name := "charCount", desc := "(I)I", sig := { parameters := [.int], returnType := some .int }, accessFlags := 9, code := some k14c0 }
/-- java/lang/Character -/
def k14 : Class := { plain "java/lang/Character" (some 0) with
  accessFlags := 49
  interfaces := #[3, 4, 6]
  cf := some (fileOf pool14 1 #[.nestMembers #[48, 595, 307, 597]] #[{ accessFlags := 9, nameIndex := 536, descriptorIndex := 174, attributes := #[] }] 49 42 #[385, 387, 389] #[{ accessFlags := 25, nameIndex := 391, descriptorIndex := 392, attributes := #[] }, { accessFlags := 25, nameIndex := 395, descriptorIndex := 392, attributes := #[] }, { accessFlags := 25, nameIndex := 397, descriptorIndex := 22, attributes := #[] }, { accessFlags := 25, nameIndex := 399, descriptorIndex := 22, attributes := #[] }, { accessFlags := 25, nameIndex := 383, descriptorIndex := 384, attributes := #[] }, { accessFlags := 25, nameIndex := 403, descriptorIndex := 404, attributes := #[] }, { accessFlags := 25, nameIndex := 405, descriptorIndex := 404, attributes := #[] }, { accessFlags := 25, nameIndex := 407, descriptorIndex := 404, attributes := #[] }, { accessFlags := 25, nameIndex := 408, descriptorIndex := 404, attributes := #[] }, { accessFlags := 25, nameIndex := 410, descriptorIndex := 404, attributes := #[] }, { accessFlags := 25, nameIndex := 412, descriptorIndex := 404, attributes := #[] }, { accessFlags := 25, nameIndex := 414, descriptorIndex := 404, attributes := #[] }, { accessFlags := 25, nameIndex := 416, descriptorIndex := 404, attributes := #[] }, { accessFlags := 25, nameIndex := 418, descriptorIndex := 404, attributes := #[] }, { accessFlags := 25, nameIndex := 420, descriptorIndex := 404, attributes := #[] }, { accessFlags := 25, nameIndex := 422, descriptorIndex := 404, attributes := #[] }, { accessFlags := 25, nameIndex := 424, descriptorIndex := 404, attributes := #[] }, { accessFlags := 25, nameIndex := 426, descriptorIndex := 404, attributes := #[] }, { accessFlags := 25, nameIndex := 428, descriptorIndex := 404, attributes := #[] }, { accessFlags := 25, nameIndex := 430, descriptorIndex := 404, attributes := #[] }, { accessFlags := 25, nameIndex := 432, descriptorIndex := 404, attributes := #[] }, { accessFlags := 25, nameIndex := 434, descriptorIndex := 404, attributes := #[] }, { accessFlags := 25, nameIndex := 436, descriptorIndex := 404, attributes := #[] }, { accessFlags := 25, nameIndex := 438, descriptorIndex := 404, attributes := #[] }, { accessFlags := 25, nameIndex := 440, descriptorIndex := 404, attributes := #[] }, { accessFlags := 25, nameIndex := 442, descriptorIndex := 404, attributes := #[] }, { accessFlags := 25, nameIndex := 444, descriptorIndex := 404, attributes := #[] }, { accessFlags := 25, nameIndex := 446, descriptorIndex := 404, attributes := #[] }, { accessFlags := 25, nameIndex := 448, descriptorIndex := 404, attributes := #[] }, { accessFlags := 25, nameIndex := 450, descriptorIndex := 404, attributes := #[] }, { accessFlags := 25, nameIndex := 452, descriptorIndex := 404, attributes := #[] }, { accessFlags := 25, nameIndex := 454, descriptorIndex := 404, attributes := #[] }, { accessFlags := 25, nameIndex := 456, descriptorIndex := 404, attributes := #[] }, { accessFlags := 25, nameIndex := 458, descriptorIndex := 404, attributes := #[] }, { accessFlags := 25, nameIndex := 460, descriptorIndex := 404, attributes := #[] }, { accessFlags := 24, nameIndex := 462, descriptorIndex := 392, attributes := #[] }, { accessFlags := 25, nameIndex := 464, descriptorIndex := 404, attributes := #[] }, { accessFlags := 25, nameIndex := 465, descriptorIndex := 404, attributes := #[] }, { accessFlags := 25, nameIndex := 466, descriptorIndex := 404, attributes := #[] }, { accessFlags := 25, nameIndex := 467, descriptorIndex := 404, attributes := #[] }, { accessFlags := 25, nameIndex := 468, descriptorIndex := 404, attributes := #[] }, { accessFlags := 25, nameIndex := 469, descriptorIndex := 404, attributes := #[] }, { accessFlags := 25, nameIndex := 470, descriptorIndex := 404, attributes := #[] }, { accessFlags := 25, nameIndex := 471, descriptorIndex := 404, attributes := #[] }, { accessFlags := 25, nameIndex := 472, descriptorIndex := 404, attributes := #[] }, { accessFlags := 25, nameIndex := 473, descriptorIndex := 404, attributes := #[] }, { accessFlags := 25, nameIndex := 474, descriptorIndex := 404, attributes := #[] }, { accessFlags := 25, nameIndex := 475, descriptorIndex := 404, attributes := #[] }, { accessFlags := 25, nameIndex := 476, descriptorIndex := 404, attributes := #[] }, { accessFlags := 25, nameIndex := 477, descriptorIndex := 404, attributes := #[] }, { accessFlags := 25, nameIndex := 478, descriptorIndex := 404, attributes := #[] }, { accessFlags := 25, nameIndex := 479, descriptorIndex := 404, attributes := #[] }, { accessFlags := 25, nameIndex := 480, descriptorIndex := 404, attributes := #[] }, { accessFlags := 25, nameIndex := 481, descriptorIndex := 404, attributes := #[] }, { accessFlags := 25, nameIndex := 482, descriptorIndex := 404, attributes := #[] }, { accessFlags := 25, nameIndex := 484, descriptorIndex := 404, attributes := #[] }, { accessFlags := 25, nameIndex := 485, descriptorIndex := 404, attributes := #[] }, { accessFlags := 25, nameIndex := 486, descriptorIndex := 404, attributes := #[] }, { accessFlags := 25, nameIndex := 487, descriptorIndex := 404, attributes := #[] }, { accessFlags := 25, nameIndex := 488, descriptorIndex := 404, attributes := #[] }, { accessFlags := 25, nameIndex := 489, descriptorIndex := 22, attributes := #[] }, { accessFlags := 25, nameIndex := 490, descriptorIndex := 22, attributes := #[] }, { accessFlags := 25, nameIndex := 492, descriptorIndex := 22, attributes := #[] }, { accessFlags := 25, nameIndex := 493, descriptorIndex := 22, attributes := #[] }, { accessFlags := 25, nameIndex := 495, descriptorIndex := 22, attributes := #[] }, { accessFlags := 25, nameIndex := 496, descriptorIndex := 22, attributes := #[] }, { accessFlags := 25, nameIndex := 497, descriptorIndex := 392, attributes := #[] }, { accessFlags := 25, nameIndex := 498, descriptorIndex := 392, attributes := #[] }, { accessFlags := 25, nameIndex := 499, descriptorIndex := 392, attributes := #[] }, { accessFlags := 18, nameIndex := 21, descriptorIndex := 22, attributes := #[] }, { accessFlags := 26, nameIndex := 501, descriptorIndex := 502, attributes := #[] }, { accessFlags := 25, nameIndex := 505, descriptorIndex := 392, attributes := #[] }, { accessFlags := 25, nameIndex := 506, descriptorIndex := 392, attributes := #[] }, { accessFlags := 4120, nameIndex := 284, descriptorIndex := 285, attributes := #[] }])
  fields := #[{ name := "MIN_RADIX", type := .int, accessFlags := 25, slot := 0, constantValue := 0 }, { name := "MAX_RADIX", type := .int, accessFlags := 25, slot := 1, constantValue := 0 }, { name := "MIN_VALUE", type := .char, accessFlags := 25, slot := 2, constantValue := 0 }, { name := "MAX_VALUE", type := .char, accessFlags := 25, slot := 3, constantValue := 0 }, { name := "TYPE", type := (.object "java/lang/Class"), accessFlags := 25, slot := 4, constantValue := 0 }, { name := "UNASSIGNED", type := .byte, accessFlags := 25, slot := 5, constantValue := 0 }, { name := "UPPERCASE_LETTER", type := .byte, accessFlags := 25, slot := 6, constantValue := 0 }, { name := "LOWERCASE_LETTER", type := .byte, accessFlags := 25, slot := 7, constantValue := 0 }, { name := "TITLECASE_LETTER", type := .byte, accessFlags := 25, slot := 8, constantValue := 0 }, { name := "MODIFIER_LETTER", type := .byte, accessFlags := 25, slot := 9, constantValue := 0 }, { name := "OTHER_LETTER", type := .byte, accessFlags := 25, slot := 10, constantValue := 0 }, { name := "NON_SPACING_MARK", type := .byte, accessFlags := 25, slot := 11, constantValue := 0 }, { name := "ENCLOSING_MARK", type := .byte, accessFlags := 25, slot := 12, constantValue := 0 }, { name := "COMBINING_SPACING_MARK", type := .byte, accessFlags := 25, slot := 13, constantValue := 0 }, { name := "DECIMAL_DIGIT_NUMBER", type := .byte, accessFlags := 25, slot := 14, constantValue := 0 }, { name := "LETTER_NUMBER", type := .byte, accessFlags := 25, slot := 15, constantValue := 0 }, { name := "OTHER_NUMBER", type := .byte, accessFlags := 25, slot := 16, constantValue := 0 }, { name := "SPACE_SEPARATOR", type := .byte, accessFlags := 25, slot := 17, constantValue := 0 }, { name := "LINE_SEPARATOR", type := .byte, accessFlags := 25, slot := 18, constantValue := 0 }, { name := "PARAGRAPH_SEPARATOR", type := .byte, accessFlags := 25, slot := 19, constantValue := 0 }, { name := "CONTROL", type := .byte, accessFlags := 25, slot := 20, constantValue := 0 }, { name := "FORMAT", type := .byte, accessFlags := 25, slot := 21, constantValue := 0 }, { name := "PRIVATE_USE", type := .byte, accessFlags := 25, slot := 22, constantValue := 0 }, { name := "SURROGATE", type := .byte, accessFlags := 25, slot := 23, constantValue := 0 }, { name := "DASH_PUNCTUATION", type := .byte, accessFlags := 25, slot := 24, constantValue := 0 }, { name := "START_PUNCTUATION", type := .byte, accessFlags := 25, slot := 25, constantValue := 0 }, { name := "END_PUNCTUATION", type := .byte, accessFlags := 25, slot := 26, constantValue := 0 }, { name := "CONNECTOR_PUNCTUATION", type := .byte, accessFlags := 25, slot := 27, constantValue := 0 }, { name := "OTHER_PUNCTUATION", type := .byte, accessFlags := 25, slot := 28, constantValue := 0 }, { name := "MATH_SYMBOL", type := .byte, accessFlags := 25, slot := 29, constantValue := 0 }, { name := "CURRENCY_SYMBOL", type := .byte, accessFlags := 25, slot := 30, constantValue := 0 }, { name := "MODIFIER_SYMBOL", type := .byte, accessFlags := 25, slot := 31, constantValue := 0 }, { name := "OTHER_SYMBOL", type := .byte, accessFlags := 25, slot := 32, constantValue := 0 }, { name := "INITIAL_QUOTE_PUNCTUATION", type := .byte, accessFlags := 25, slot := 33, constantValue := 0 }, { name := "FINAL_QUOTE_PUNCTUATION", type := .byte, accessFlags := 25, slot := 34, constantValue := 0 }, { name := "ERROR", type := .int, accessFlags := 24, slot := 35, constantValue := 0 }, { name := "DIRECTIONALITY_UNDEFINED", type := .byte, accessFlags := 25, slot := 36, constantValue := 0 }, { name := "DIRECTIONALITY_LEFT_TO_RIGHT", type := .byte, accessFlags := 25, slot := 37, constantValue := 0 }, { name := "DIRECTIONALITY_RIGHT_TO_LEFT", type := .byte, accessFlags := 25, slot := 38, constantValue := 0 }, { name := "DIRECTIONALITY_RIGHT_TO_LEFT_ARABIC", type := .byte, accessFlags := 25, slot := 39, constantValue := 0 }, { name := "DIRECTIONALITY_EUROPEAN_NUMBER", type := .byte, accessFlags := 25, slot := 40, constantValue := 0 }, { name := "DIRECTIONALITY_EUROPEAN_NUMBER_SEPARATOR", type := .byte, accessFlags := 25, slot := 41, constantValue := 0 }, { name := "DIRECTIONALITY_EUROPEAN_NUMBER_TERMINATOR", type := .byte, accessFlags := 25, slot := 42, constantValue := 0 }, { name := "DIRECTIONALITY_ARABIC_NUMBER", type := .byte, accessFlags := 25, slot := 43, constantValue := 0 }, { name := "DIRECTIONALITY_COMMON_NUMBER_SEPARATOR", type := .byte, accessFlags := 25, slot := 44, constantValue := 0 }, { name := "DIRECTIONALITY_NONSPACING_MARK", type := .byte, accessFlags := 25, slot := 45, constantValue := 0 }, { name := "DIRECTIONALITY_BOUNDARY_NEUTRAL", type := .byte, accessFlags := 25, slot := 46, constantValue := 0 }, { name := "DIRECTIONALITY_PARAGRAPH_SEPARATOR", type := .byte, accessFlags := 25, slot := 47, constantValue := 0 }, { name := "DIRECTIONALITY_SEGMENT_SEPARATOR", type := .byte, accessFlags := 25, slot := 48, constantValue := 0 }, { name := "DIRECTIONALITY_WHITESPACE", type := .byte, accessFlags := 25, slot := 49, constantValue := 0 }, { name := "DIRECTIONALITY_OTHER_NEUTRALS", type := .byte, accessFlags := 25, slot := 50, constantValue := 0 }, { name := "DIRECTIONALITY_LEFT_TO_RIGHT_EMBEDDING", type := .byte, accessFlags := 25, slot := 51, constantValue := 0 }, { name := "DIRECTIONALITY_LEFT_TO_RIGHT_OVERRIDE", type := .byte, accessFlags := 25, slot := 52, constantValue := 0 }, { name := "DIRECTIONALITY_RIGHT_TO_LEFT_EMBEDDING", type := .byte, accessFlags := 25, slot := 53, constantValue := 0 }, { name := "DIRECTIONALITY_RIGHT_TO_LEFT_OVERRIDE", type := .byte, accessFlags := 25, slot := 54, constantValue := 0 }, { name := "DIRECTIONALITY_POP_DIRECTIONAL_FORMAT", type := .byte, accessFlags := 25, slot := 55, constantValue := 0 }, { name := "DIRECTIONALITY_LEFT_TO_RIGHT_ISOLATE", type := .byte, accessFlags := 25, slot := 56, constantValue := 0 }, { name := "DIRECTIONALITY_RIGHT_TO_LEFT_ISOLATE", type := .byte, accessFlags := 25, slot := 57, constantValue := 0 }, { name := "DIRECTIONALITY_FIRST_STRONG_ISOLATE", type := .byte, accessFlags := 25, slot := 58, constantValue := 0 }, { name := "DIRECTIONALITY_POP_DIRECTIONAL_ISOLATE", type := .byte, accessFlags := 25, slot := 59, constantValue := 0 }, { name := "MIN_HIGH_SURROGATE", type := .char, accessFlags := 25, slot := 60, constantValue := 0 }, { name := "MAX_HIGH_SURROGATE", type := .char, accessFlags := 25, slot := 61, constantValue := 0 }, { name := "MIN_LOW_SURROGATE", type := .char, accessFlags := 25, slot := 62, constantValue := 0 }, { name := "MAX_LOW_SURROGATE", type := .char, accessFlags := 25, slot := 63, constantValue := 0 }, { name := "MIN_SURROGATE", type := .char, accessFlags := 25, slot := 64, constantValue := 0 }, { name := "MAX_SURROGATE", type := .char, accessFlags := 25, slot := 65, constantValue := 0 }, { name := "MIN_SUPPLEMENTARY_CODE_POINT", type := .int, accessFlags := 25, slot := 66, constantValue := 0 }, { name := "MIN_CODE_POINT", type := .int, accessFlags := 25, slot := 67, constantValue := 0 }, { name := "MAX_CODE_POINT", type := .int, accessFlags := 25, slot := 68, constantValue := 0 }, { name := "value", type := .char, accessFlags := 18, slot := 0, constantValue := 0 }, { name := "serialVersionUID", type := .long, accessFlags := 26, slot := 69, constantValue := 0 }, { name := "SIZE", type := .int, accessFlags := 25, slot := 70, constantValue := 0 }, { name := "BYTES", type := .int, accessFlags := 25, slot := 71, constantValue := 0 }, { name := "$assertionsDisabled", type := .boolean, accessFlags := 4120, slot := 72, constantValue := 0 }]
  methods := #[k14m0]
  instanceTypes := #[.char]
  staticTypes := #[.int, .int, .char, .char, (.object "java/lang/Class"), .byte, .byte, .byte, .byte, .byte, .byte, .byte, .byte, .byte, .byte, .byte, .byte, .byte, .byte, .byte, .byte, .byte, .byte, .byte, .byte, .byte, .byte, .byte, .byte, .byte, .byte, .byte, .byte, .byte, .byte, .int, .byte, .byte, .byte, .byte, .byte, .byte, .byte, .byte, .byte, .byte, .byte, .byte, .byte, .byte, .byte, .byte, .byte, .byte, .byte, .byte, .byte, .byte, .byte, .byte, .char, .char, .char, .char, .char, .char, .int, .int, .int, .long, .int, .int, .boolean]
  resolved := Array.replicate 604 none
  statics := none }

def pool15 : Array CpInfo := pool [(9, u "<init>"), (6, .class_ 18), (1, u "java/lang/Object"), (0, u "()V"), (1, .class_ 23), (1, u "jdk/internal/util/ArraysSupport"), (0, u "LOG2_ARRAY_LONG_INDEX_SCALE"), (0, u "I"), (2, u "U"), (0, u "Ljdk/internal/misc/Unsafe;"), (8, u "BIG_ENDIAN"), (0, u "Z"), (8, u "LOG2_BYTE_BIT_SIZE"), (4, u "LOG2_ARRAY_INT_INDEX_SCALE"), (54, u "JLA"), (0, u "Ljdk/internal/access/JavaLangAccess;"), (11, u "LOG2_ARRAY_BOOLEAN_INDEX_SCALE"), (9, u "LOG2_ARRAY_BYTE_INDEX_SCALE"), (5, u "LOG2_ARRAY_CHAR_INDEX_SCALE"), (5, u "LOG2_ARRAY_SHORT_INDEX_SCALE"), (18, u "LOG2_ARRAY_FLOAT_INDEX_SCALE"), (24, u "LOG2_ARRAY_DOUBLE_INDEX_SCALE"), (89, u "T_BOOLEAN"), (2, u "T_CHAR"), (1, u "T_FLOAT"), (1, u "T_DOUBLE"), (1, u "T_BYTE"), (1, u "T_SHORT"), (1, u "T_INT"), (1, u "T_LONG"), (1, u "SOFT_MAX_ARRAY_LENGTH")] 83

def k15m0 : Method := { name := "<init>", desc := "()V", sig := { parameters := [], returnType := none }, accessFlags := 2, code := none }
/-- jdk/internal/util/ArraysSupport -/
def k15 : Class := { plain "jdk/internal/util/ArraysSupport" (some 0) with
  accessFlags := 33
  interfaces := #[]
  cf := some (fileOf pool15 21 #[] #[{ accessFlags := 2, nameIndex := 9, descriptorIndex := 19, attributes := #[] }] 33 16 #[] #[{ accessFlags := 24, nameIndex := 28, descriptorIndex := 29, attributes := #[] }, { accessFlags := 26, nameIndex := 38, descriptorIndex := 39, attributes := #[] }, { accessFlags := 25, nameIndex := 121, descriptorIndex := 25, attributes := #[] }, { accessFlags := 25, nameIndex := 131, descriptorIndex := 25, attributes := #[] }, { accessFlags := 25, nameIndex := 137, descriptorIndex := 25, attributes := #[] }, { accessFlags := 25, nameIndex := 143, descriptorIndex := 25, attributes := #[] }, { accessFlags := 25, nameIndex := 53, descriptorIndex := 25, attributes := #[] }, { accessFlags := 25, nameIndex := 24, descriptorIndex := 25, attributes := #[] }, { accessFlags := 25, nameIndex := 162, descriptorIndex := 25, attributes := #[] }, { accessFlags := 25, nameIndex := 187, descriptorIndex := 25, attributes := #[] }, { accessFlags := 26, nameIndex := 48, descriptorIndex := 25, attributes := #[] }, { accessFlags := 25, nameIndex := 277, descriptorIndex := 25, attributes := #[] }, { accessFlags := 25, nameIndex := 280, descriptorIndex := 25, attributes := #[] }, { accessFlags := 25, nameIndex := 282, descriptorIndex := 25, attributes := #[] }, { accessFlags := 25, nameIndex := 284, descriptorIndex := 25, attributes := #[] }, { accessFlags := 25, nameIndex := 286, descriptorIndex := 25, attributes := #[] }, { accessFlags := 25, nameIndex := 288, descriptorIndex := 25, attributes := #[] }, { accessFlags := 25, nameIndex := 290, descriptorIndex := 25, attributes := #[] }, { accessFlags := 25, nameIndex := 292, descriptorIndex := 25, attributes := #[] }, { accessFlags := 26, nameIndex := 108, descriptorIndex := 109, attributes := #[] }, { accessFlags := 25, nameIndex := 294, descriptorIndex := 25, attributes := #[] }])
  fields := #[{ name := "U", type := (.object "jdk/internal/misc/Unsafe"), accessFlags := 24, slot := 0, constantValue := 0 }, { name := "BIG_ENDIAN", type := .boolean, accessFlags := 26, slot := 1, constantValue := 0 }, { name := "LOG2_ARRAY_BOOLEAN_INDEX_SCALE", type := .int, accessFlags := 25, slot := 2, constantValue := 0 }, { name := "LOG2_ARRAY_BYTE_INDEX_SCALE", type := .int, accessFlags := 25, slot := 3, constantValue := 0 }, { name := "LOG2_ARRAY_CHAR_INDEX_SCALE", type := .int, accessFlags := 25, slot := 4, constantValue := 0 }, { name := "LOG2_ARRAY_SHORT_INDEX_SCALE", type := .int, accessFlags := 25, slot := 5, constantValue := 0 }, { name := "LOG2_ARRAY_INT_INDEX_SCALE", type := .int, accessFlags := 25, slot := 6, constantValue := 0 }, { name := "LOG2_ARRAY_LONG_INDEX_SCALE", type := .int, accessFlags := 25, slot := 7, constantValue := 0 }, { name := "LOG2_ARRAY_FLOAT_INDEX_SCALE", type := .int, accessFlags := 25, slot := 8, constantValue := 0 }, { name := "LOG2_ARRAY_DOUBLE_INDEX_SCALE", type := .int, accessFlags := 25, slot := 9, constantValue := 0 }, { name := "LOG2_BYTE_BIT_SIZE", type := .int, accessFlags := 26, slot := 10, constantValue := 0 }, { name := "T_BOOLEAN", type := .int, accessFlags := 25, slot := 11, constantValue := 0 }, { name := "T_CHAR", type := .int, accessFlags := 25, slot := 12, constantValue := 0 }, { name := "T_FLOAT", type := .int, accessFlags := 25, slot := 13, constantValue := 0 }, { name := "T_DOUBLE", type := .int, accessFlags := 25, slot := 14, constantValue := 0 }, { name := "T_BYTE", type := .int, accessFlags := 25, slot := 15, constantValue := 0 }, { name := "T_SHORT", type := .int, accessFlags := 25, slot := 16, constantValue := 0 }, { name := "T_INT", type := .int, accessFlags := 25, slot := 17, constantValue := 0 }, { name := "T_LONG", type := .int, accessFlags := 25, slot := 18, constantValue := 0 }, { name := "JLA", type := (.object "jdk/internal/access/JavaLangAccess"), accessFlags := 26, slot := 19, constantValue := 0 }, { name := "SOFT_MAX_ARRAY_LENGTH", type := .int, accessFlags := 25, slot := 20, constantValue := 0 }]
  methods := #[k15m0]
  instanceTypes := #[]
  staticTypes := #[(.object "jdk/internal/misc/Unsafe"), .boolean, .int, .int, .int, .int, .int, .int, .int, .int, .int, .int, .int, .int, .int, .int, .int, .int, .int, (.object "jdk/internal/access/JavaLangAccess"), .int]
  resolved := Array.replicate 378 none
  statics := none }

def pool16 : Array CpInfo := pool [(1, u "java/lang/Cloneable"), (0, .class_ 1), (0, u "java/lang/Object"), (0, .class_ 3)] 3

/-- java/lang/Cloneable -/
def k16 : Class := { plain "java/lang/Cloneable" (some 0) with
  accessFlags := 1537
  interfaces := #[]
  cf := some (fileOf pool16 2 #[] #[] 1537 4 #[] #[])
  fields := #[]
  methods := #[]
  instanceTypes := #[]
  staticTypes := #[]
  resolved := Array.replicate 8 none
  statics := none }

/-- the primitive byte -/
def k17 : Class := { plain "byte" none with kind := .primitive 'B', accessFlags := 0x411 }
/-- [B -/
def k18 : Class := { plain "[B" (some 0) with kind := .array 17 .byte, interfaces := #[16, 3], accessFlags := 1041 }

/-- the primitive char -/
def k19 : Class := { plain "char" none with kind := .primitive 'C', accessFlags := 0x411 }
/-- [C -/
def k20 : Class := { plain "[C" (some 0) with kind := .array 19 .char, interfaces := #[16, 3], accessFlags := 1041 }

/-- the primitive int -/
def k21 : Class := { plain "int" none with kind := .primitive 'I', accessFlags := 0x411 }
/-- [I -/
def k22 : Class := { plain "[I" (some 0) with kind := .array 21 .int, interfaces := #[16, 3], accessFlags := 1041 }

def heap : Heap := #[{ cls := 8, slots := #[.long 0, .int 1, .null, .int 0, .null, .int 0, .int 0], vm := .statics 8 },
  { cls := 10, slots := #[.null, .null, .null], vm := .statics 10 },
  { cls := 12, slots := #[.ref 3], vm := .statics 12 },
  { cls := 12, slots := #[.null], vm := .none }]
def classes : Array Class := #[k0, k1, k2, k3, k4, k5, k6, k7, k8, k9, k10, k11, k12, k13, k14, k15, k16, k17, k18, k19, k20, k21, k22]
def interned : List (Array UInt16 × Addr) := []
def slotsUsed : Nat := 12
def theMethod : MethodId := ⟨1, 9⟩
def args0 : Array Value := #[.int 5, .int 5, .int 5, .int 5, .int 5]
def aboutOver (below : List Frame) : State where
  vm := { classes := classes, interned := interned.toArray }
  heap := heap
  slotsUsed := slotsUsed
  threads := #[{ frames := .invoking theMethod args0 :: below }]
def below0 : List Frame := [.native { method := ⟨0, 0⟩, args := #[] }]
def about1 : State := aboutOver below0
def p0 : Program := .bare "" "" ""
def e0 : Env := launch0.env 0 0 0
theorem w_frames : about1.frames = Frame.invoking theMethod args0 :: below0 := rfl
set_option maxRecDepth 65536 in
theorem w_args : argsFit about1.vm theMethod args0 = true := by decide +kernel
set_option maxRecDepth 65536 in
theorem w_heap : heapFits about1 = true := by decide +kernel
set_option maxRecDepth 65536 in
theorem w_runnable : about1.curStatus? = some .runnable := by decide +kernel
set_option maxRecDepth 65536 in
theorem w_alone : about1.alone = true := by decide +kernel
set_option maxRecDepth 65536 in
theorem w_named : about1.methodNamed? x = some theMethod := by decide +kernel
set_option maxRecDepth 65536 in
theorem w_hears : about1.hears theMethod below0 = true := by decide +kernel
set_option maxRecDepth 65536 in
theorem w_ripe : about1.ripe theMethod args0 below0 = true := by decide +kernel
theorem w_running : about1.status = .running := rfl
set_option maxRecDepth 65536 in
theorem w_room : about1.hasRoom e0.platform room_1 = true :=
  launch0.hasRoom_least _ room_1 (by decide +kernel) (by decide +kernel) (by decide +kernel) (by decide +kernel) (by decide +kernel) (by decide +kernel)
theorem allAtoms_all (ts : List Jvm.Cond) (a : Array Jvm.Value) (st : Jvm.State) : (allAtoms ts).before a st = ts.all (fun c => c.before a st) := by
  induction ts with
  | nil => rfl
  | cons c t ih =>
    show (Jvm.Cond.and c (allAtoms t)).before a st = _
    rw [Jvm.Cond.before_and, ih, List.all_cons]
def words1 : List Jvm.Cond := Jvm.Cond.code x code maxLocals ret :: tables_1
/-- a 'code' word, met by the world's own term for the bytes: nothing is compared byte by byte -/
theorem code_word {y : MethodName} {bytes : ByteArray} {mx : Nat} {rt : Option FieldType} {a : Array Value} {s : State} {m : MethodId} {meth : Method} {c : Code} (h1 : s.methodNamed? y = some m) (h2 : s.vm.method? m = some meth) (h3 : meth.code = some c) (h4 : c.code = bytes)
    (h5 : (c.maxLocals == mx && c.exceptionTable.isEmpty && decide (c.maxStack ≤ mostOperands) && decide (meth.sig.returnType = rt) && !meth.locks && decide (parseMethodDescriptor y.desc = some meth.sig)) = true) : (Jvm.Cond.code y bytes mx rt).before a s = true := by
  simp only [Bool.and_eq_true, beq_iff_eq, Bool.not_eq_true', decide_eq_true_eq] at h5
  obtain ⟨⟨⟨⟨⟨g1, g2⟩, g3⟩, g4⟩, g5⟩, g6⟩ := h5
  simp [Cond.before, Cond.holds, Cond.value, h1, h2, h3, h4, g1, g2, g3, g4, g5, g6]
def isCode : Jvm.Cond → Bool
  | .code _ _ _ _ => true
  | _ => false
theorem all_split {L : List Jvm.Cond} {P : Jvm.Cond → Bool} (h1 : L.all (fun c => isCode c || P c) = true) (h2 : ∀ c ∈ L.filter isCode, P c = true) : L.all P = true := by
  refine List.all_eq_true.mpr fun c hc => ?_
  have h := List.all_eq_true.mp h1 c hc
  rcases Bool.eq_false_or_eq_true (isCode c) with hi | hi
  · exact h2 c (List.mem_filter.mpr ⟨hc, hi⟩)
  · simpa [hi] using h
set_option maxRecDepth 65536 in
theorem w_c0 : (Jvm.Cond.code x code maxLocals ret).before args0 about1 = true := code_word (m := ⟨1, 9⟩) (meth := k1m9) (c := k1c9) (by decide +kernel) rfl rfl rfl (by decide +kernel)
set_option maxRecDepth 65536 in
theorem w_c1 : (Jvm.Cond.code ({ cls := "com/example/waldrapp/waldrapp/IntentEqualsPinLaw", name := "idOf", desc := "(I)Ljava/lang/String;" } : Jvm.MethodName) method_4_code (2 : Nat) (Option.some (Jvm.ClassFile.FieldType.object "java/lang/String"))).before args0 about1 = true := code_word (m := ⟨1, 3⟩) (meth := k1m3) (c := k1c3) (by decide +kernel) rfl rfl rfl (by decide +kernel)
set_option maxRecDepth 65536 in
theorem w_c2 : (Jvm.Cond.code ({ cls := "com/example/waldrapp/waldrapp/IntentEqualsPinLaw", name := "idC", desc := "(II)C" } : Jvm.MethodName) method_2_code (4 : Nat) (Option.some Jvm.ClassFile.FieldType.char)).before args0 about1 = true := code_word (m := ⟨1, 1⟩) (meth := k1m1) (c := k1c1) (by decide +kernel) rfl rfl rfl (by decide +kernel)
set_option maxRecDepth 65536 in
theorem w_c3 : (Jvm.Cond.code ({ cls := "java/lang/String", name := "charAt", desc := "(I)C" } : Jvm.MethodName) jdk_42_method_56_code (2 : Nat) (Option.some Jvm.ClassFile.FieldType.char)).before args0 about1 = true := code_word (m := ⟨8, 4⟩) (meth := k8m4) (c := k8c4) (by decide +kernel) rfl rfl rfl (by decide +kernel)
set_option maxRecDepth 65536 in
theorem w_c4 : (Jvm.Cond.code ({ cls := "java/lang/String", name := "isLatin1", desc := "()Z" } : Jvm.MethodName) jdk_42_method_154_code (1 : Nat) (Option.some Jvm.ClassFile.FieldType.boolean)).before args0 about1 = true := code_word (m := ⟨8, 11⟩) (meth := k8m11) (c := k8c11) (by decide +kernel) rfl rfl rfl (by decide +kernel)
set_option maxRecDepth 65536 in
theorem w_c5 : (Jvm.Cond.code ({ cls := "java/lang/StringLatin1", name := "charAt", desc := "([BI)C" } : Jvm.MethodName) jdk_43_method_2_code (2 : Nat) (Option.some Jvm.ClassFile.FieldType.char)).before args0 about1 = true := code_word (m := ⟨9, 1⟩) (meth := k9m1) (c := k9c1) (by decide +kernel) rfl rfl rfl (by decide +kernel)
set_option maxRecDepth 65536 in
theorem w_c6 : (Jvm.Cond.code ({ cls := "java/lang/String", name := "checkIndex", desc := "(II)V" } : Jvm.MethodName) jdk_42_method_155_code (2 : Nat) (Option.none : Option Jvm.ClassFile.FieldType)).before args0 about1 = true := code_word (m := ⟨8, 12⟩) (meth := k8m12) (c := k8c12) (by decide +kernel) rfl rfl rfl (by decide +kernel)
set_option maxRecDepth 65536 in
theorem w_c7 : (Jvm.Cond.code ({ cls := "jdk/internal/util/Preconditions", name := "checkIndex", desc := "(IILjava/util/function/BiFunction;)I" } : Jvm.MethodName) jdk_41_method_11_code (3 : Nat) (Option.some Jvm.ClassFile.FieldType.int)).before args0 about1 = true := code_word (m := ⟨10, 1⟩) (meth := k10m1) (c := k10c1) (by decide +kernel) rfl rfl rfl (by decide +kernel)
set_option maxRecDepth 65536 in
theorem w_c8 : (Jvm.Cond.code ({ cls := "com/example/waldrapp/waldrapp/IntentEqualsPinLaw", name := "idLen", desc := "(I)I" } : Jvm.MethodName) method_3_code (1 : Nat) (Option.some Jvm.ClassFile.FieldType.int)).before args0 about1 = true := code_word (m := ⟨1, 2⟩) (meth := k1m2) (c := k1c2) (by decide +kernel) rfl rfl rfl (by decide +kernel)
set_option maxRecDepth 65536 in
theorem w_c9 : (Jvm.Cond.code ({ cls := "java/lang/String", name := "<init>", desc := "([C)V" } : Jvm.MethodName) jdk_42_method_3_code (2 : Nat) (Option.none : Option Jvm.ClassFile.FieldType)).before args0 about1 = true := code_word (m := ⟨8, 1⟩) (meth := k8m1) (c := k8c1) (by decide +kernel) rfl rfl rfl (by decide +kernel)
set_option maxRecDepth 65536 in
theorem w_c10 : (Jvm.Cond.code ({ cls := "java/lang/String", name := "<init>", desc := "([CIILjava/lang/Void;)V" } : Jvm.MethodName) jdk_42_method_149_code (6 : Nat) (Option.none : Option Jvm.ClassFile.FieldType)).before args0 about1 = true := code_word (m := ⟨8, 9⟩) (meth := k8m9) (c := k8c9) (by decide +kernel) rfl rfl rfl (by decide +kernel)
set_option maxRecDepth 65536 in
theorem w_c11 : (Jvm.Cond.code ({ cls := "java/lang/Object", name := "<init>", desc := "()V" } : Jvm.MethodName) object_method_1_code (1 : Nat) (Option.none : Option Jvm.ClassFile.FieldType)).before args0 about1 = true := code_word (m := ⟨0, 0⟩) (meth := k0m0) (c := k0c0) (by decide +kernel) rfl rfl rfl (by decide +kernel)
set_option maxRecDepth 65536 in
theorem w_c12 : (Jvm.Cond.code ({ cls := "java/lang/StringUTF16", name := "compress", desc := "([CII)[B" } : Jvm.MethodName) jdk_52_method_16_code (6 : Nat) (Option.some (Jvm.ClassFile.FieldType.array Jvm.ClassFile.FieldType.byte))).before args0 about1 = true := code_word (m := ⟨11, 2⟩) (meth := k11m2) (c := k11c2) (by decide +kernel) rfl rfl rfl (by decide +kernel)
set_option maxRecDepth 65536 in
theorem w_c13 : (Jvm.Cond.code ({ cls := "java/lang/StringUTF16", name := "compress", desc := "([CI[BII)I" } : Jvm.MethodName) jdk_52_method_21_code (7 : Nat) (Option.some Jvm.ClassFile.FieldType.int)).before args0 about1 = true := code_word (m := ⟨11, 3⟩) (meth := k11m3) (c := k11c3) (by decide +kernel) rfl rfl rfl (by decide +kernel)
set_option maxRecDepth 65536 in
theorem w_c14 : (Jvm.Cond.code ({ cls := "java/lang/StringUTF16", name := "coderFromArrayLen", desc := "([BI)B" } : Jvm.MethodName) jdk_52_method_15_code (2 : Nat) (Option.some Jvm.ClassFile.FieldType.byte)).before args0 about1 = true := code_word (m := ⟨11, 1⟩) (meth := k11m1) (c := k11c1) (by decide +kernel) rfl rfl rfl (by decide +kernel)
set_option maxRecDepth 65536 in
theorem w_c15 : (Jvm.Cond.code ({ cls := "com/example/waldrapp/waldrapp/IntentEqualsPinLaw", name := "payOf", desc := "(I)Ljava/lang/String;" } : Jvm.MethodName) method_8_code (2 : Nat) (Option.some (Jvm.ClassFile.FieldType.object "java/lang/String"))).before args0 about1 = true := code_word (m := ⟨1, 7⟩) (meth := k1m7) (c := k1c7) (by decide +kernel) rfl rfl rfl (by decide +kernel)
set_option maxRecDepth 65536 in
theorem w_c16 : (Jvm.Cond.code ({ cls := "com/example/waldrapp/waldrapp/IntentEqualsPinLaw", name := "payLen", desc := "(I)I" } : Jvm.MethodName) method_6_code (1 : Nat) (Option.some Jvm.ClassFile.FieldType.int)).before args0 about1 = true := code_word (m := ⟨1, 5⟩) (meth := k1m5) (c := k1c5) (by decide +kernel) rfl rfl rfl (by decide +kernel)
set_option maxRecDepth 65536 in
theorem w_c17 : (Jvm.Cond.code ({ cls := "com/example/waldrapp/waldrapp/Intent", name := "<init>", desc := "(Ljava/lang/String;Ljava/lang/String;)V" } : Jvm.MethodName) prog_14_method_1_code (4 : Nat) (Option.none : Option Jvm.ClassFile.FieldType)).before args0 about1 = true := code_word (m := ⟨2, 0⟩) (meth := k2m0) (c := k2c0) (by decide +kernel) rfl rfl rfl (by decide +kernel)
set_option maxRecDepth 65536 in
theorem w_c18 : (Jvm.Cond.code ({ cls := "com/example/waldrapp/waldrapp/Intent", name := "isId", desc := "(Ljava/lang/String;)Z" } : Jvm.MethodName) prog_14_method_5_code (4 : Nat) (Option.some Jvm.ClassFile.FieldType.boolean)).before args0 about1 = true := code_word (m := ⟨2, 2⟩) (meth := k2m2) (c := k2c2) (by decide +kernel) rfl rfl rfl (by decide +kernel)
set_option maxRecDepth 65536 in
theorem w_c19 : (Jvm.Cond.code ({ cls := "java/lang/String", name := "isEmpty", desc := "()Z" } : Jvm.MethodName) jdk_42_method_55_code (1 : Nat) (Option.some Jvm.ClassFile.FieldType.boolean)).before args0 about1 = true := code_word (m := ⟨8, 3⟩) (meth := k8m3) (c := k8c3) (by decide +kernel) rfl rfl rfl (by decide +kernel)
set_option maxRecDepth 65536 in
theorem w_c20 : (Jvm.Cond.code ({ cls := "java/lang/String", name := "length", desc := "()I" } : Jvm.MethodName) jdk_42_method_54_code (1 : Nat) (Option.some Jvm.ClassFile.FieldType.int)).before args0 about1 = true := code_word (m := ⟨8, 2⟩) (meth := k8m2) (c := k8c2) (by decide +kernel) rfl rfl rfl (by decide +kernel)
set_option maxRecDepth 65536 in
theorem w_c21 : (Jvm.Cond.code ({ cls := "java/lang/String", name := "coder", desc := "()B" } : Jvm.MethodName) jdk_42_method_152_code (1 : Nat) (Option.some Jvm.ClassFile.FieldType.byte)).before args0 about1 = true := code_word (m := ⟨8, 10⟩) (meth := k8m10) (c := k8c10) (by decide +kernel) rfl rfl rfl (by decide +kernel)
set_option maxRecDepth 65536 in
theorem w_c22 : (Jvm.Cond.code ({ cls := "com/example/waldrapp/waldrapp/Intent", name := "payloadProblem", desc := "(Ljava/lang/String;)Ljava/util/Optional;" } : Jvm.MethodName) prog_14_method_6_code (3 : Nat) (Option.some (Jvm.ClassFile.FieldType.object "java/util/Optional"))).before args0 about1 = true := code_word (m := ⟨2, 3⟩) (meth := k2m3) (c := k2c3) (by decide +kernel) rfl rfl rfl (by decide +kernel)
set_option maxRecDepth 65536 in
theorem w_c23 : (Jvm.Cond.code ({ cls := "java/util/Optional", name := "empty", desc := "()Ljava/util/Optional;" } : Jvm.MethodName) jdk_32_method_1_code (1 : Nat) (Option.some (Jvm.ClassFile.FieldType.object "java/util/Optional"))).before args0 about1 = true := code_word (m := ⟨12, 0⟩) (meth := k12m0) (c := k12c0) (by decide +kernel) rfl rfl rfl (by decide +kernel)
set_option maxRecDepth 65536 in
theorem w_c24 : (Jvm.Cond.code ({ cls := "com/example/waldrapp/waldrapp/Intent", name := "utf8Length", desc := "(Ljava/lang/String;)I" } : Jvm.MethodName) prog_14_method_8_code (4 : Nat) (Option.some Jvm.ClassFile.FieldType.int)).before args0 about1 = true := code_word (m := ⟨2, 4⟩) (meth := k2m4) (c := k2c4) (by decide +kernel) rfl rfl rfl (by decide +kernel)
set_option maxRecDepth 65536 in
theorem w_c25 : (Jvm.Cond.code ({ cls := "java/lang/String", name := "indexOf", desc := "(I)I" } : Jvm.MethodName) jdk_42_method_79_code (2 : Nat) (Option.some Jvm.ClassFile.FieldType.int)).before args0 about1 = true := code_word (m := ⟨8, 7⟩) (meth := k8m7) (c := k8c7) (by decide +kernel) rfl rfl rfl (by decide +kernel)
set_option maxRecDepth 65536 in
theorem w_c26 : (Jvm.Cond.code ({ cls := "java/lang/String", name := "indexOf", desc := "(II)I" } : Jvm.MethodName) jdk_42_method_80_code (3 : Nat) (Option.some Jvm.ClassFile.FieldType.int)).before args0 about1 = true := code_word (m := ⟨8, 8⟩) (meth := k8m8) (c := k8c8) (by decide +kernel) rfl rfl rfl (by decide +kernel)
set_option maxRecDepth 65536 in
theorem w_c27 : (Jvm.Cond.code ({ cls := "java/lang/StringLatin1", name := "indexOf", desc := "([BIII)I" } : Jvm.MethodName) jdk_43_method_22_code (4 : Nat) (Option.some Jvm.ClassFile.FieldType.int)).before args0 about1 = true := code_word (m := ⟨9, 4⟩) (meth := k9m4) (c := k9c4) (by decide +kernel) rfl rfl rfl (by decide +kernel)
set_option maxRecDepth 65536 in
theorem w_c28 : (Jvm.Cond.code ({ cls := "java/lang/StringLatin1", name := "canEncode", desc := "(I)Z" } : Jvm.MethodName) jdk_43_method_4_code (1 : Nat) (Option.some Jvm.ClassFile.FieldType.boolean)).before args0 about1 = true := code_word (m := ⟨9, 2⟩) (meth := k9m2) (c := k9c2) (by decide +kernel) rfl rfl rfl (by decide +kernel)
set_option maxRecDepth 65536 in
theorem w_c29 : (Jvm.Cond.code ({ cls := "java/lang/Math", name := "max", desc := "(II)I" } : Jvm.MethodName) jdk_29_method_65_code (2 : Nat) (Option.some Jvm.ClassFile.FieldType.int)).before args0 about1 = true := code_word (m := ⟨13, 1⟩) (meth := k13m1) (c := k13c1) (by decide +kernel) rfl rfl rfl (by decide +kernel)
set_option maxRecDepth 65536 in
theorem w_c30 : (Jvm.Cond.code ({ cls := "java/lang/Math", name := "min", desc := "(II)I" } : Jvm.MethodName) jdk_29_method_69_code (2 : Nat) (Option.some Jvm.ClassFile.FieldType.int)).before args0 about1 = true := code_word (m := ⟨13, 2⟩) (meth := k13m2) (c := k13c2) (by decide +kernel) rfl rfl rfl (by decide +kernel)
set_option maxRecDepth 65536 in
theorem w_c31 : (Jvm.Cond.code ({ cls := "java/util/Optional", name := "isPresent", desc := "()Z" } : Jvm.MethodName) jdk_32_method_6_code (1 : Nat) (Option.some Jvm.ClassFile.FieldType.boolean)).before args0 about1 = true := code_word (m := ⟨12, 1⟩) (meth := k12m1) (c := k12c1) (by decide +kernel) rfl rfl rfl (by decide +kernel)
set_option maxRecDepth 65536 in
theorem w_c32 : (Jvm.Cond.code ({ cls := "com/example/waldrapp/waldrapp/IntentEqualsPinLaw", name := "idEq", desc := "(II)Z" } : Jvm.MethodName) method_5_code (4 : Nat) (Option.some Jvm.ClassFile.FieldType.boolean)).before args0 about1 = true := code_word (m := ⟨1, 4⟩) (meth := k1m4) (c := k1c4) (by decide +kernel) rfl rfl rfl (by decide +kernel)
set_option maxRecDepth 65536 in
theorem w_c33 : (Jvm.Cond.code ({ cls := "com/example/waldrapp/waldrapp/Intent", name := "equals", desc := "(Ljava/lang/Object;)Z" } : Jvm.MethodName) prog_14_method_9_code (3 : Nat) (Option.some Jvm.ClassFile.FieldType.boolean)).before args0 about1 = true := code_word (m := ⟨2, 5⟩) (meth := k2m5) (c := k2c5) (by decide +kernel) rfl rfl rfl (by decide +kernel)
set_option maxRecDepth 65536 in
theorem w_c34 : (Jvm.Cond.code ({ cls := "java/lang/String", name := "equals", desc := "(Ljava/lang/Object;)Z" } : Jvm.MethodName) jdk_42_method_66_code (3 : Nat) (Option.some Jvm.ClassFile.FieldType.boolean)).before args0 about1 = true := code_word (m := ⟨8, 6⟩) (meth := k8m6) (c := k8c6) (by decide +kernel) rfl rfl rfl (by decide +kernel)
set_option maxRecDepth 65536 in
theorem w_c35 : (Jvm.Cond.code ({ cls := "java/lang/StringLatin1", name := "equals", desc := "([B[B)Z" } : Jvm.MethodName) jdk_43_method_13_code (3 : Nat) (Option.some Jvm.ClassFile.FieldType.boolean)).before args0 about1 = true := code_word (m := ⟨9, 3⟩) (meth := k9m3) (c := k9c3) (by decide +kernel) rfl rfl rfl (by decide +kernel)
set_option maxRecDepth 65536 in
theorem w_c36 : (Jvm.Cond.code ({ cls := "com/example/waldrapp/waldrapp/Intent", name := "id", desc := "()Ljava/lang/String;" } : Jvm.MethodName) prog_14_method_2_code (1 : Nat) (Option.some (Jvm.ClassFile.FieldType.object "java/lang/String"))).before args0 about1 = true := code_word (m := ⟨2, 1⟩) (meth := k2m1) (c := k2c1) (by decide +kernel) rfl rfl rfl (by decide +kernel)
set_option maxRecDepth 65536 in
theorem w_c37 : (Jvm.Cond.code ({ cls := "com/example/waldrapp/waldrapp/IntentEqualsPinLaw", name := "payEq", desc := "(II)Z" } : Jvm.MethodName) method_9_code (4 : Nat) (Option.some Jvm.ClassFile.FieldType.boolean)).before args0 about1 = true := code_word (m := ⟨1, 8⟩) (meth := k1m8) (c := k1c8) (by decide +kernel) rfl rfl rfl (by decide +kernel)
set_option maxRecDepth 65536 in
theorem w_c38 : (Jvm.Cond.code ({ cls := "com/example/waldrapp/waldrapp/IntentEqualsPinLaw", name := "payC", desc := "(II)C" } : Jvm.MethodName) method_7_code (3 : Nat) (Option.some Jvm.ClassFile.FieldType.char)).before args0 about1 = true := code_word (m := ⟨1, 6⟩) (meth := k1m6) (c := k1c6) (by decide +kernel) rfl rfl rfl (by decide +kernel)
set_option maxRecDepth 65536 in
theorem w_c39 : (Jvm.Cond.code ({ cls := "java/lang/String", name := "codePointAt", desc := "(I)I" } : Jvm.MethodName) jdk_42_method_57_code (3 : Nat) (Option.some Jvm.ClassFile.FieldType.int)).before args0 about1 = true := code_word (m := ⟨8, 5⟩) (meth := k8m5) (c := k8c5) (by decide +kernel) rfl rfl rfl (by decide +kernel)
set_option maxRecDepth 65536 in
theorem w_c40 : (Jvm.Cond.code ({ cls := "java/lang/Character", name := "charCount", desc := "(I)I" } : Jvm.MethodName) jdk_89_method_18_code (1 : Nat) (Option.some Jvm.ClassFile.FieldType.int)).before args0 about1 = true := code_word (m := ⟨14, 0⟩) (meth := k14m0) (c := k14c0) (by decide +kernel) rfl rfl rfl (by decide +kernel)
set_option maxRecDepth 65536 in
theorem w_c41 : (Jvm.Cond.code ({ cls := "java/lang/StringLatin1", name := "indexOfChar", desc := "([BIII)I" } : Jvm.MethodName) jdk_43_method_23_code (6 : Nat) (Option.some Jvm.ClassFile.FieldType.int)).before args0 about1 = true := code_word (m := ⟨9, 5⟩) (meth := k9m5) (c := k9c5) (by decide +kernel) rfl rfl rfl (by decide +kernel)
def codes1 : List Jvm.Cond := [Jvm.Cond.code x code maxLocals ret, Jvm.Cond.code ({ cls := "com/example/waldrapp/waldrapp/IntentEqualsPinLaw", name := "idOf", desc := "(I)Ljava/lang/String;" } : Jvm.MethodName) method_4_code (2 : Nat) (Option.some (Jvm.ClassFile.FieldType.object "java/lang/String")), Jvm.Cond.code ({ cls := "com/example/waldrapp/waldrapp/IntentEqualsPinLaw", name := "idC", desc := "(II)C" } : Jvm.MethodName) method_2_code (4 : Nat) (Option.some Jvm.ClassFile.FieldType.char), Jvm.Cond.code ({ cls := "java/lang/String", name := "charAt", desc := "(I)C" } : Jvm.MethodName) jdk_42_method_56_code (2 : Nat) (Option.some Jvm.ClassFile.FieldType.char), Jvm.Cond.code ({ cls := "java/lang/String", name := "isLatin1", desc := "()Z" } : Jvm.MethodName) jdk_42_method_154_code (1 : Nat) (Option.some Jvm.ClassFile.FieldType.boolean), Jvm.Cond.code ({ cls := "java/lang/StringLatin1", name := "charAt", desc := "([BI)C" } : Jvm.MethodName) jdk_43_method_2_code (2 : Nat) (Option.some Jvm.ClassFile.FieldType.char), Jvm.Cond.code ({ cls := "java/lang/String", name := "checkIndex", desc := "(II)V" } : Jvm.MethodName) jdk_42_method_155_code (2 : Nat) (Option.none : Option Jvm.ClassFile.FieldType), Jvm.Cond.code ({ cls := "jdk/internal/util/Preconditions", name := "checkIndex", desc := "(IILjava/util/function/BiFunction;)I" } : Jvm.MethodName) jdk_41_method_11_code (3 : Nat) (Option.some Jvm.ClassFile.FieldType.int), Jvm.Cond.code ({ cls := "com/example/waldrapp/waldrapp/IntentEqualsPinLaw", name := "idLen", desc := "(I)I" } : Jvm.MethodName) method_3_code (1 : Nat) (Option.some Jvm.ClassFile.FieldType.int), Jvm.Cond.code ({ cls := "java/lang/String", name := "<init>", desc := "([C)V" } : Jvm.MethodName) jdk_42_method_3_code (2 : Nat) (Option.none : Option Jvm.ClassFile.FieldType), Jvm.Cond.code ({ cls := "java/lang/String", name := "<init>", desc := "([CIILjava/lang/Void;)V" } : Jvm.MethodName) jdk_42_method_149_code (6 : Nat) (Option.none : Option Jvm.ClassFile.FieldType), Jvm.Cond.code ({ cls := "java/lang/Object", name := "<init>", desc := "()V" } : Jvm.MethodName) object_method_1_code (1 : Nat) (Option.none : Option Jvm.ClassFile.FieldType), Jvm.Cond.code ({ cls := "java/lang/StringUTF16", name := "compress", desc := "([CII)[B" } : Jvm.MethodName) jdk_52_method_16_code (6 : Nat) (Option.some (Jvm.ClassFile.FieldType.array Jvm.ClassFile.FieldType.byte)), Jvm.Cond.code ({ cls := "java/lang/StringUTF16", name := "compress", desc := "([CI[BII)I" } : Jvm.MethodName) jdk_52_method_21_code (7 : Nat) (Option.some Jvm.ClassFile.FieldType.int), Jvm.Cond.code ({ cls := "java/lang/StringUTF16", name := "coderFromArrayLen", desc := "([BI)B" } : Jvm.MethodName) jdk_52_method_15_code (2 : Nat) (Option.some Jvm.ClassFile.FieldType.byte), Jvm.Cond.code ({ cls := "com/example/waldrapp/waldrapp/IntentEqualsPinLaw", name := "payOf", desc := "(I)Ljava/lang/String;" } : Jvm.MethodName) method_8_code (2 : Nat) (Option.some (Jvm.ClassFile.FieldType.object "java/lang/String")), Jvm.Cond.code ({ cls := "com/example/waldrapp/waldrapp/IntentEqualsPinLaw", name := "payLen", desc := "(I)I" } : Jvm.MethodName) method_6_code (1 : Nat) (Option.some Jvm.ClassFile.FieldType.int), Jvm.Cond.code ({ cls := "com/example/waldrapp/waldrapp/Intent", name := "<init>", desc := "(Ljava/lang/String;Ljava/lang/String;)V" } : Jvm.MethodName) prog_14_method_1_code (4 : Nat) (Option.none : Option Jvm.ClassFile.FieldType), Jvm.Cond.code ({ cls := "com/example/waldrapp/waldrapp/Intent", name := "isId", desc := "(Ljava/lang/String;)Z" } : Jvm.MethodName) prog_14_method_5_code (4 : Nat) (Option.some Jvm.ClassFile.FieldType.boolean), Jvm.Cond.code ({ cls := "java/lang/String", name := "isEmpty", desc := "()Z" } : Jvm.MethodName) jdk_42_method_55_code (1 : Nat) (Option.some Jvm.ClassFile.FieldType.boolean), Jvm.Cond.code ({ cls := "java/lang/String", name := "length", desc := "()I" } : Jvm.MethodName) jdk_42_method_54_code (1 : Nat) (Option.some Jvm.ClassFile.FieldType.int), Jvm.Cond.code ({ cls := "java/lang/String", name := "coder", desc := "()B" } : Jvm.MethodName) jdk_42_method_152_code (1 : Nat) (Option.some Jvm.ClassFile.FieldType.byte), Jvm.Cond.code ({ cls := "com/example/waldrapp/waldrapp/Intent", name := "payloadProblem", desc := "(Ljava/lang/String;)Ljava/util/Optional;" } : Jvm.MethodName) prog_14_method_6_code (3 : Nat) (Option.some (Jvm.ClassFile.FieldType.object "java/util/Optional")), Jvm.Cond.code ({ cls := "java/util/Optional", name := "empty", desc := "()Ljava/util/Optional;" } : Jvm.MethodName) jdk_32_method_1_code (1 : Nat) (Option.some (Jvm.ClassFile.FieldType.object "java/util/Optional")), Jvm.Cond.code ({ cls := "com/example/waldrapp/waldrapp/Intent", name := "utf8Length", desc := "(Ljava/lang/String;)I" } : Jvm.MethodName) prog_14_method_8_code (4 : Nat) (Option.some Jvm.ClassFile.FieldType.int), Jvm.Cond.code ({ cls := "java/lang/String", name := "indexOf", desc := "(I)I" } : Jvm.MethodName) jdk_42_method_79_code (2 : Nat) (Option.some Jvm.ClassFile.FieldType.int), Jvm.Cond.code ({ cls := "java/lang/String", name := "indexOf", desc := "(II)I" } : Jvm.MethodName) jdk_42_method_80_code (3 : Nat) (Option.some Jvm.ClassFile.FieldType.int), Jvm.Cond.code ({ cls := "java/lang/StringLatin1", name := "indexOf", desc := "([BIII)I" } : Jvm.MethodName) jdk_43_method_22_code (4 : Nat) (Option.some Jvm.ClassFile.FieldType.int), Jvm.Cond.code ({ cls := "java/lang/StringLatin1", name := "canEncode", desc := "(I)Z" } : Jvm.MethodName) jdk_43_method_4_code (1 : Nat) (Option.some Jvm.ClassFile.FieldType.boolean), Jvm.Cond.code ({ cls := "java/lang/Math", name := "max", desc := "(II)I" } : Jvm.MethodName) jdk_29_method_65_code (2 : Nat) (Option.some Jvm.ClassFile.FieldType.int), Jvm.Cond.code ({ cls := "java/lang/Math", name := "min", desc := "(II)I" } : Jvm.MethodName) jdk_29_method_69_code (2 : Nat) (Option.some Jvm.ClassFile.FieldType.int), Jvm.Cond.code ({ cls := "java/util/Optional", name := "isPresent", desc := "()Z" } : Jvm.MethodName) jdk_32_method_6_code (1 : Nat) (Option.some Jvm.ClassFile.FieldType.boolean), Jvm.Cond.code ({ cls := "com/example/waldrapp/waldrapp/IntentEqualsPinLaw", name := "idEq", desc := "(II)Z" } : Jvm.MethodName) method_5_code (4 : Nat) (Option.some Jvm.ClassFile.FieldType.boolean), Jvm.Cond.code ({ cls := "com/example/waldrapp/waldrapp/Intent", name := "equals", desc := "(Ljava/lang/Object;)Z" } : Jvm.MethodName) prog_14_method_9_code (3 : Nat) (Option.some Jvm.ClassFile.FieldType.boolean), Jvm.Cond.code ({ cls := "java/lang/String", name := "equals", desc := "(Ljava/lang/Object;)Z" } : Jvm.MethodName) jdk_42_method_66_code (3 : Nat) (Option.some Jvm.ClassFile.FieldType.boolean), Jvm.Cond.code ({ cls := "java/lang/StringLatin1", name := "equals", desc := "([B[B)Z" } : Jvm.MethodName) jdk_43_method_13_code (3 : Nat) (Option.some Jvm.ClassFile.FieldType.boolean), Jvm.Cond.code ({ cls := "com/example/waldrapp/waldrapp/Intent", name := "id", desc := "()Ljava/lang/String;" } : Jvm.MethodName) prog_14_method_2_code (1 : Nat) (Option.some (Jvm.ClassFile.FieldType.object "java/lang/String")), Jvm.Cond.code ({ cls := "com/example/waldrapp/waldrapp/IntentEqualsPinLaw", name := "payEq", desc := "(II)Z" } : Jvm.MethodName) method_9_code (4 : Nat) (Option.some Jvm.ClassFile.FieldType.boolean), Jvm.Cond.code ({ cls := "com/example/waldrapp/waldrapp/IntentEqualsPinLaw", name := "payC", desc := "(II)C" } : Jvm.MethodName) method_7_code (3 : Nat) (Option.some Jvm.ClassFile.FieldType.char), Jvm.Cond.code ({ cls := "java/lang/String", name := "codePointAt", desc := "(I)I" } : Jvm.MethodName) jdk_42_method_57_code (3 : Nat) (Option.some Jvm.ClassFile.FieldType.int), Jvm.Cond.code ({ cls := "java/lang/Character", name := "charCount", desc := "(I)I" } : Jvm.MethodName) jdk_89_method_18_code (1 : Nat) (Option.some Jvm.ClassFile.FieldType.int), Jvm.Cond.code ({ cls := "java/lang/StringLatin1", name := "indexOfChar", desc := "([BIII)I" } : Jvm.MethodName) jdk_43_method_23_code (6 : Nat) (Option.some Jvm.ClassFile.FieldType.int)]
set_option maxRecDepth 65536 in
theorem codes_eq : words1.filter isCode = codes1 := rfl
theorem w_codes : ∀ c ∈ words1.filter isCode, c.before args0 about1 = true := by
  rw [codes_eq]
  intro c hc
  simp only [codes1, List.mem_cons, List.not_mem_nil, or_false] at hc
  rcases hc with rfl | rfl | rfl | rfl | rfl | rfl | rfl | rfl | rfl | rfl | rfl | rfl | rfl | rfl | rfl | rfl | rfl | rfl | rfl | rfl | rfl | rfl | rfl | rfl | rfl | rfl | rfl | rfl | rfl | rfl | rfl | rfl | rfl | rfl | rfl | rfl | rfl | rfl | rfl | rfl | rfl | rfl
  · exact w_c0
  · exact w_c1
  · exact w_c2
  · exact w_c3
  · exact w_c4
  · exact w_c5
  · exact w_c6
  · exact w_c7
  · exact w_c8
  · exact w_c9
  · exact w_c10
  · exact w_c11
  · exact w_c12
  · exact w_c13
  · exact w_c14
  · exact w_c15
  · exact w_c16
  · exact w_c17
  · exact w_c18
  · exact w_c19
  · exact w_c20
  · exact w_c21
  · exact w_c22
  · exact w_c23
  · exact w_c24
  · exact w_c25
  · exact w_c26
  · exact w_c27
  · exact w_c28
  · exact w_c29
  · exact w_c30
  · exact w_c31
  · exact w_c32
  · exact w_c33
  · exact w_c34
  · exact w_c35
  · exact w_c36
  · exact w_c37
  · exact w_c38
  · exact w_c39
  · exact w_c40
  · exact w_c41
set_option maxRecDepth 65536 in
theorem w_t1 : (words1.take 24).all (fun c => isCode c || c.before args0 about1) = true := by decide +kernel
set_option maxRecDepth 65536 in
theorem w_t2 : ((words1.drop 24).take 24).all (fun c => isCode c || c.before args0 about1) = true := by decide +kernel
set_option maxRecDepth 65536 in
theorem w_t3 : (((words1.drop 24).drop 24).take 24).all (fun c => isCode c || c.before args0 about1) = true := by decide +kernel
set_option maxRecDepth 65536 in
theorem w_t4 : ((((words1.drop 24).drop 24).drop 24).take 24).all (fun c => isCode c || c.before args0 about1) = true := by decide +kernel
set_option maxRecDepth 65536 in
theorem w_t5 : (((((words1.drop 24).drop 24).drop 24).drop 24).take 24).all (fun c => isCode c || c.before args0 about1) = true := by decide +kernel
set_option maxRecDepth 65536 in
theorem w_t6 : ((((((words1.drop 24).drop 24).drop 24).drop 24).drop 24).take 24).all (fun c => isCode c || c.before args0 about1) = true := by decide +kernel
set_option maxRecDepth 65536 in
theorem w_t7 : (((((((words1.drop 24).drop 24).drop 24).drop 24).drop 24).drop 24).take 24).all (fun c => isCode c || c.before args0 about1) = true := by decide +kernel
set_option maxRecDepth 65536 in
theorem w_t8 : ((((((((words1.drop 24).drop 24).drop 24).drop 24).drop 24).drop 24).drop 24).take 24).all (fun c => isCode c || c.before args0 about1) = true := by decide +kernel
set_option maxRecDepth 65536 in
theorem w_t9 : ((((((((words1.drop 24).drop 24).drop 24).drop 24).drop 24).drop 24).drop 24).drop 24).all (fun c => isCode c || c.before args0 about1) = true := by decide +kernel
theorem w_tables : (allAtoms (Jvm.Cond.code x code maxLocals ret :: tables_1)).before args0 about1 = true := by
  rw [allAtoms_all]
  show words1.all (fun c => c.before args0 about1) = true
  refine all_split ?_ w_codes
  rw [← List.take_append_drop 24 words1, List.all_append, w_t1, ← List.take_append_drop 24 (words1.drop 24), List.all_append, w_t2, ← List.take_append_drop 24 ((words1.drop 24).drop 24), List.all_append, w_t3, ← List.take_append_drop 24 (((words1.drop 24).drop 24).drop 24), List.all_append, w_t4, ← List.take_append_drop 24 ((((words1.drop 24).drop 24).drop 24).drop 24), List.all_append, w_t5, ← List.take_append_drop 24 (((((words1.drop 24).drop 24).drop 24).drop 24).drop 24), List.all_append, w_t6, ← List.take_append_drop 24 ((((((words1.drop 24).drop 24).drop 24).drop 24).drop 24).drop 24), List.all_append, w_t7, ← List.take_append_drop 24 (((((((words1.drop 24).drop 24).drop 24).drop 24).drop 24).drop 24).drop 24), List.all_append, w_t8, w_t9]
  rfl
set_option maxRecDepth 65536 in
theorem w_rest : rest_1_c.before args0 about1 = true := by decide +kernel
set_option maxRecDepth 65536 in
theorem w_case : (Jvm.Cond.and given_1 narrow_1).before args0 about1 = true := by decide +kernel
set_option maxRecDepth 65536 in
theorem w_consts : constsHeld consts_1 about1 := Jvm.Lit.constsHeldB_iff.mp (by decide +kernel)
theorem w_applies : (headSpec (Jvm.Cond.code x code maxLocals ret :: tables_1) room_1).applies x e0.platform about1 = true :=
  (Spec.applies_iff w_frames).mpr ⟨w_running, w_runnable, w_alone, w_named, w_hears, w_ripe, w_room, w_tables⟩
theorem atStart : AtStart classFile x code maxLocals ret World_1 tables_1 room_1 Calls_1 rest_1 Pre_1 launch0 p0 e0 about1 theMethod args0 below0 :=
  ⟨lists_1, trivial, launch0.admits_env _ _ _, launch0.least_env, fairChoices_fair.cas, fairChoices_fair.clock, w_frames, w_args, w_heap, w_applies, ⟨w_consts, trivial⟩, w_rest, w_case⟩
end start1
theorem witness_1 : WitnessClaimed_1 := ⟨start1.p0, start1.e0, start1.about1, start1.theMethod, start1.args0, start1.below0, start1.atStart⟩
end Jvm.Pilot.@@N@@
