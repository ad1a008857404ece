import JvmDerived
import JvmDerived.Pilot.@@N@@Statement
import JvmDerived.Pilot.@@N@@Code
set_option linter.unusedVariables false
set_option linter.unusedSimpArgs false
namespace Jvm.OwnWalk
open Sem ClassFile Op Lib Jvm.Stand Jvm.Free Jvm.LawKit Jvm.RoadKit
/-- from t the run comes to an end of which P holds -/
def Win (tb : Tables) (e : Env) (below : List Frame) (P : State → Outcome → Prop) (t : State) : Prop :=
  ∃ s₂ o, Steps tb e below t s₂ ∧ s₂.status = .running ∧ Ended s₂ below o ∧ P s₂ o
theorem Win.go {tb : Tables} {e : Env} {below : List Frame} {P : State → Outcome → Prop} {t t' : State} (st : ∀ z, Steps tb e below t' z → Steps tb e below t z) (w : Win tb e below P t') : Win tb e below P t := by
  obtain ⟨s2, o, h, r⟩ := w; exact ⟨s2, o, st _ h, r⟩
theorem Win.come {tb : Tables} {e : Env} {below : List Frame} {P : State → Outcome → Prop} {t t' : State} (st : Steps tb e below t t') (w : Win tb e below P t') : Win tb e below P t := by
  obtain ⟨s2, o, h, r⟩ := w; exact ⟨s2, o, st.trans h, r⟩
/-- the body has returned v with the heap h, L written -/
def PostQ (s : State) (Q : Option Value → Heap → List Loc → Prop) (C S : Nat) (u : State) (o : Outcome) : Prop := ∃ v L, o = .returned v ∧ Q v u.heap L ∧ FrameEnd s o u L C S
section Ret
variable {p : Program} {l : Launch} {e : Env} {R : Room} {s : State} {m : MethodId} {args : Array Value} {below : List Frame} {meth : Method} {c : Code} {T : State} {locs : List Loc} {cells slots : Nat} {h : Heap} {Q : Option Value → Heap → List Loc → Prop} {C S : Nat}
theorem retI' (X : Stand p l e R s m args below meth c T locs cells slots) (hx : p.tables.exec = Jvm.exec) {pc : Nat} {Ls : Array Slot} {z : Int32} {rest : List Value} (hret : meth.sig.returnType = some .int) (hd : decode c.code pc = .ok (.ireturn, 1)) {fs : List Frame}
    (hl : ∀ (f : JFrame) (acts : List Action), f.method = m → f.locked = none → f.entered = [] → (doReturn e (T.setTop f) acts (some (.int z))).1 = T.setFrames fs) : Steps p.tables e below (T.setTop (mkF m pc Ls (.int z :: rest))) (T.setFrames fs) := by
  have hm' : T.vm.method? m = some meth := X.method'
  have hn : narrow .int (.int z) = .int z := rfl
  show Steps p.tables e below (T.setTop { method := m, pc := pc, locals := Ls, stack := _ :: rest, locked := none }) _
  jvm_step X.here [X.here.top, hx, hd, hm', hret, hn]
  first | (intro acts; rw [hl _ acts rfl rfl rfl]) | rw [hl _ _ rfl rfl rfl]
  exact Steps.refl _
theorem retA' (X : Stand p l e R s m args below meth c T locs cells slots) (hx : p.tables.exec = Jvm.exec) {pc : Nat} {Ls : Array Slot} {w : Value} {t : FieldType} (hret : meth.sig.returnType = some t) (ht : t.isReference = true) (hv : w.isRef = true) (hd : decode c.code pc = .ok (.areturn, 1)) {fs : List Frame}
    (hl : ∀ (f : JFrame) (acts : List Action), f.method = m → f.locked = none → f.entered = [] → (doReturn e (T.setTop f) acts (some w)).1 = T.setFrames fs) : Steps p.tables e below (T.setTop (mkF m pc Ls [w])) (T.setFrames fs) := by
  have hm' : T.vm.method? m = some meth := X.method'
  show Steps p.tables e below (T.setTop { method := m, pc := pc, locals := Ls, stack := [w], locked := none }) _
  jvm_step X.here [X.here.top, hx, hd, hm', hret, hv, ht]
  first | (intro acts; rw [hl _ acts rfl rfl rfl]) | rw [hl _ _ rfl rfl rfl]
  exact Steps.refl _
theorem winI (X : Stand p l e R s m args below meth c T locs cells slots) (hx : p.tables.exec = Jvm.exec) (hlk : meth.locks = false) (eT : T.heap = h) {pc : Nat} {Ls : Array Slot} {z : Int32} {rest : List Value} (hret : meth.sig.returnType = some .int) (hd : decode c.code pc = .ok (.ireturn, 1))
    (hc : cells ≤ C) (hs : slots ≤ S) (hQ : Q (some (.int z)) h locs) : Win p.tables e below (PostQ s Q C S) (T.setTop (mkF m pc Ls (.int z :: rest))) := by
  subst eT
  obtain ⟨fs, hr, hrun, hended, hW, hsame⟩ := X.leave (v := some (.int z)) (fun h => by rw [hret] at h; cases h) hlk
  exact ⟨_, _, retI' X hx hret hd hr, hrun, hended, _, _, rfl, hQ, ⟨_, rfl⟩, hW, hsame.mono hc hs⟩
theorem winN (X : Stand p l e R s m args below meth c T locs cells slots) (hx : p.tables.exec = Jvm.exec) (hlk : meth.locks = false) (eT : T.heap = h) {pc : Nat} {Ls : Array Slot} {z z' : Int32} {rest : List Value} {t : FieldType} (hret : meth.sig.returnType = some t) (ht : t = .boolean ∨ t = .byte ∨ t = .char ∨ t = .short) (hd : decode c.code pc = .ok (.ireturn, 1))
    (hc : cells ≤ C) (hs : slots ≤ S) (hz : nar t z = z') (hQ : Q (some (.int z')) h locs) : Win p.tables e below (PostQ s Q C S) (T.setTop (mkF m pc Ls (.int z :: rest))) := by
  subst eT hz
  obtain ⟨fs, hr, hrun, hended, hW, hsame⟩ := X.leave (v := some (.int (nar t z))) (fun h => by rw [hret] at h; cases h) hlk
  exact ⟨_, _, retN X hx hret ht hd hr, hrun, hended, _, _, rfl, hQ, ⟨_, rfl⟩, hW, hsame.mono hc hs⟩
theorem winL (X : Stand p l e R s m args below meth c T locs cells slots) (hx : p.tables.exec = Jvm.exec) (hlk : meth.locks = false) (eT : T.heap = h) {pc : Nat} {Ls : Array Slot} {z : Int64} (hret : meth.sig.returnType = some .long) (hd : decode c.code pc = .ok (.lreturn, 1))
    (hc : cells ≤ C) (hs : slots ≤ S) (hQ : Q (some (.long z)) h locs) : Win p.tables e below (PostQ s Q C S) (T.setTop (mkF m pc Ls [.long z])) := by
  subst eT
  obtain ⟨fs, hr, hrun, hended, hW, hsame⟩ := X.leave (v := some (.long z)) (fun h => by rw [hret] at h; cases h) hlk
  exact ⟨_, _, X.lreturnOut hx hret hd hr, hrun, hended, _, _, rfl, hQ, ⟨_, rfl⟩, hW, hsame.mono hc hs⟩
theorem winA (X : Stand p l e R s m args below meth c T locs cells slots) (hx : p.tables.exec = Jvm.exec) (hlk : meth.locks = false) (eT : T.heap = h) {pc : Nat} {Ls : Array Slot} {w : Value} {t : FieldType} (hret : meth.sig.returnType = some t) (ht : t.isReference = true) (hv : w.isRef = true) (hd : decode c.code pc = .ok (.areturn, 1))
    (hc : cells ≤ C) (hs : slots ≤ S) (hQ : Q (some w) h locs) : Win p.tables e below (PostQ s Q C S) (T.setTop (mkF m pc Ls [w])) := by
  subst eT
  obtain ⟨fs, hr, hrun, hended, hW, hsame⟩ := X.leave (v := some w) (fun h => by rw [hret] at h; cases h) hlk
  exact ⟨_, _, retA' X hx hret ht hv hd hr, hrun, hended, _, _, rfl, hQ, ⟨_, rfl⟩, hW, hsame.mono hc hs⟩
theorem winV (X : Stand p l e R s m args below meth c T locs cells slots) (hx : p.tables.exec = Jvm.exec) (hlk : meth.locks = false) (eT : T.heap = h) {pc : Nat} {Ls : Array Slot} (hret : meth.sig.returnType = none) (hd : decode c.code pc = .ok (.return_, 1))
    (hc : cells ≤ C) (hs : slots ≤ S) (hQ : Q none h locs) : Win p.tables e below (PostQ s Q C S) (T.setTop (mkF m pc Ls [])) := by
  subst eT
  obtain ⟨fs, hr, hrun, hended, hW, hsame⟩ := X.leave (v := none) (fun _ => rfl) hlk
  exact ⟨_, _, X.returnOut hx hret hd hr, hrun, hended, _, _, rfl, hQ, ⟨_, rfl⟩, hW, hsame.mono hc hs⟩
def PostQW (s : State) (Q : Option Value → Heap → List Loc → Prop) (C S : Nat) (u : State) (o : Outcome) : Prop := ∃ v L, o = .returned v ∧ Q v u.heap L ∧ ReturnedEndW s o u L C S
theorem winNW {vm0 : Vm} {k0 : Nat} (hS : s.Since vm0 k0) (hk : k0 ≤ h.size) (X : Stand p l e R (s.setVm vm0) m args below meth c T locs cells slots) (hx : p.tables.exec = Jvm.exec) (hlk : meth.locks = false) (eT : T.heap = h) {pc : Nat} {Ls : Array Slot} {z z' : Int32} {rest : List Value} {t : FieldType} (hret : meth.sig.returnType = some t) (ht : t = .boolean ∨ t = .byte ∨ t = .char ∨ t = .short) (hd : decode c.code pc = .ok (.ireturn, 1))
    (hc : cells ≤ C) (hs : slots ≤ S) (hz : nar t z = z') (hQ : Q (some (.int z')) h locs) : Win p.tables e below (PostQW s Q C S) (T.setTop (mkF m pc Ls (.int z :: rest))) := by
  subst eT hz
  obtain ⟨fs, hr, hrun, hended, h1, h2, h3, h4⟩ := X.leaveW hS hk (v := some (.int (nar t z))) (fun h => by rw [hret] at h; cases h) hlk
  exact ⟨_, _, retN X hx hret ht hd hr, hrun, hended, _, _, rfl, hQ, ⟨_, rfl⟩, h2, h3, h4.mono hc hs⟩
end Ret
section Steps
variable {tb : Tables} [Ours tb] {e : Env} {below : List Frame} {P : State → Outcome → Prop} {T : State} {m : MethodId} {c : Code} {pc pc' : Nat} {ls : Array Slot} {st : List Value}
theorem s_iloadN {k : Fin 4} {v : Int32} (h : At T m c below) (hx : tb.exec = Jvm.exec) (hd : decode c.code pc = .ok (.iload_n k, 1)) (hp : pc + 1 = pc') (hl : ls[k.val]? = some (.val (.int v))) (w : Win tb e below P (T.setTop (mkF m pc' ls (.int v :: st)))) : Win tb e below P (T.setTop (mkF m pc ls st)) := by
  subst hp; exact Win.go (fun _ k => XS.iloadN h hx rfl hd hl k) w
theorem s_iload {k : Nat} {v : Int32} (h : At T m c below) (hx : tb.exec = Jvm.exec) (hd : decode c.code pc = .ok (.iload k, 2)) (hp : pc + 2 = pc') (hl : ls[k]? = some (.val (.int v))) (w : Win tb e below P (T.setTop (mkF m pc' ls (.int v :: st)))) : Win tb e below P (T.setTop (mkF m pc ls st)) := by
  subst hp; exact Win.go (fun _ k => XS.iload h hx rfl hd hl k) w
theorem s_lloadN {k : Fin 4} {v : Int64} (h : At T m c below) (hx : tb.exec = Jvm.exec) (hd : decode c.code pc = .ok (.lload_n k, 1)) (hp : pc + 1 = pc') (hl : ls[k.val]? = some (.val (.long v))) (w : Win tb e below P (T.setTop (mkF m pc' ls (.long v :: st)))) : Win tb e below P (T.setTop (mkF m pc ls st)) := by
  subst hp; exact Win.go (fun _ k => XS.lloadN h hx rfl hd hl k) w
theorem s_lload {k : Nat} {v : Int64} (h : At T m c below) (hx : tb.exec = Jvm.exec) (hd : decode c.code pc = .ok (.lload k, 2)) (hp : pc + 2 = pc') (hl : ls[k]? = some (.val (.long v))) (w : Win tb e below P (T.setTop (mkF m pc' ls (.long v :: st)))) : Win tb e below P (T.setTop (mkF m pc ls st)) := by
  subst hp; exact Win.go (fun _ k => XS.lload h hx rfl hd hl k) w
theorem s_aloadN {k : Fin 4} {v : Value} (h : At T m c below) (hx : tb.exec = Jvm.exec) (hd : decode c.code pc = .ok (.aload_n k, 1)) (hp : pc + 1 = pc') (hl : ls[k.val]? = some (.val v)) (hv : v.isRef = true) (w : Win tb e below P (T.setTop (mkF m pc' ls (v :: st)))) : Win tb e below P (T.setTop (mkF m pc ls st)) := by
  subst hp; exact Win.go (fun _ k => XS.aloadN h hx rfl hd hl hv k) w
theorem s_aload {k : Nat} {v : Value} (h : At T m c below) (hx : tb.exec = Jvm.exec) (hd : decode c.code pc = .ok (.aload k, 2)) (hp : pc + 2 = pc') (hl : ls[k]? = some (.val v)) (hv : v.isRef = true) (w : Win tb e below P (T.setTop (mkF m pc' ls (v :: st)))) : Win tb e below P (T.setTop (mkF m pc ls st)) := by
  subst hp; exact Win.go (fun _ k => XS.aload h hx rfl hd hl hv k) w
theorem s_iadd {x y : Int32} (h : At T m c below) (hx : tb.exec = Jvm.exec) (hd : decode c.code pc = .ok (.iadd, 1)) (hp : pc + 1 = pc') (w : Win tb e below P (T.setTop (mkF m pc' ls (.int (x + y) :: st)))) : Win tb e below P (T.setTop (mkF m pc ls (.int y :: .int x :: st))) := by
  subst hp; exact Win.go (fun _ k => XS.iadd h hx rfl hd rfl k) w
theorem s_isub {x y : Int32} (h : At T m c below) (hx : tb.exec = Jvm.exec) (hd : decode c.code pc = .ok (.isub, 1)) (hp : pc + 1 = pc') (w : Win tb e below P (T.setTop (mkF m pc' ls (.int (x - y) :: st)))) : Win tb e below P (T.setTop (mkF m pc ls (.int y :: .int x :: st))) := by
  subst hp; exact Win.go (fun _ k => XS.isub h hx rfl hd rfl k) w
theorem s_imul {x y : Int32} (h : At T m c below) (hx : tb.exec = Jvm.exec) (hd : decode c.code pc = .ok (.imul, 1)) (hp : pc + 1 = pc') (w : Win tb e below P (T.setTop (mkF m pc' ls (.int (x * y) :: st)))) : Win tb e below P (T.setTop (mkF m pc ls (.int y :: .int x :: st))) := by
  subst hp; exact Win.go (fun _ k => XS.imul h hx rfl hd rfl k) w
theorem s_iand {x y : Int32} (h : At T m c below) (hx : tb.exec = Jvm.exec) (hd : decode c.code pc = .ok (.iand, 1)) (hp : pc + 1 = pc') (w : Win tb e below P (T.setTop (mkF m pc' ls (.int (x &&& y) :: st)))) : Win tb e below P (T.setTop (mkF m pc ls (.int y :: .int x :: st))) := by
  subst hp; exact Win.go (fun _ k => XS.iand h hx rfl hd rfl k) w
theorem s_ior {x y : Int32} (h : At T m c below) (hx : tb.exec = Jvm.exec) (hd : decode c.code pc = .ok (.ior, 1)) (hp : pc + 1 = pc') (w : Win tb e below P (T.setTop (mkF m pc' ls (.int (x ||| y) :: st)))) : Win tb e below P (T.setTop (mkF m pc ls (.int y :: .int x :: st))) := by
  subst hp; exact Win.go (fun _ k => XS.ior h hx rfl hd rfl k) w
theorem s_ixor {x y : Int32} (h : At T m c below) (hx : tb.exec = Jvm.exec) (hd : decode c.code pc = .ok (.ixor, 1)) (hp : pc + 1 = pc') (w : Win tb e below P (T.setTop (mkF m pc' ls (.int (x ^^^ y) :: st)))) : Win tb e below P (T.setTop (mkF m pc ls (.int y :: .int x :: st))) := by
  subst hp; exact Win.go (fun _ k => XS.ixor h hx rfl hd rfl k) w
theorem s_ladd {x y : Int64} (h : At T m c below) (hx : tb.exec = Jvm.exec) (hd : decode c.code pc = .ok (.ladd, 1)) (hp : pc + 1 = pc') (w : Win tb e below P (T.setTop (mkF m pc' ls (.long (x + y) :: st)))) : Win tb e below P (T.setTop (mkF m pc ls (.long y :: .long x :: st))) := by
  subst hp; exact Win.go (fun _ k => XS.ladd h hx rfl hd rfl k) w
theorem s_lsub {x y : Int64} (h : At T m c below) (hx : tb.exec = Jvm.exec) (hd : decode c.code pc = .ok (.lsub, 1)) (hp : pc + 1 = pc') (w : Win tb e below P (T.setTop (mkF m pc' ls (.long (x - y) :: st)))) : Win tb e below P (T.setTop (mkF m pc ls (.long y :: .long x :: st))) := by
  subst hp; exact Win.go (fun _ k => XS.lsub h hx rfl hd rfl k) w
theorem s_lmul {x y : Int64} (h : At T m c below) (hx : tb.exec = Jvm.exec) (hd : decode c.code pc = .ok (.lmul, 1)) (hp : pc + 1 = pc') (w : Win tb e below P (T.setTop (mkF m pc' ls (.long (x * y) :: st)))) : Win tb e below P (T.setTop (mkF m pc ls (.long y :: .long x :: st))) := by
  subst hp; exact Win.go (fun _ k => XS.lmul h hx rfl hd rfl k) w
theorem s_land {x y : Int64} (h : At T m c below) (hx : tb.exec = Jvm.exec) (hd : decode c.code pc = .ok (.land, 1)) (hp : pc + 1 = pc') (w : Win tb e below P (T.setTop (mkF m pc' ls (.long (x &&& y) :: st)))) : Win tb e below P (T.setTop (mkF m pc ls (.long y :: .long x :: st))) := by
  subst hp; exact Win.go (fun _ k => XS.land h hx rfl hd rfl k) w
theorem s_lor {x y : Int64} (h : At T m c below) (hx : tb.exec = Jvm.exec) (hd : decode c.code pc = .ok (.lor, 1)) (hp : pc + 1 = pc') (w : Win tb e below P (T.setTop (mkF m pc' ls (.long (x ||| y) :: st)))) : Win tb e below P (T.setTop (mkF m pc ls (.long y :: .long x :: st))) := by
  subst hp; exact Win.go (fun _ k => XS.lor h hx rfl hd rfl k) w
theorem s_lxor {x y : Int64} (h : At T m c below) (hx : tb.exec = Jvm.exec) (hd : decode c.code pc = .ok (.lxor, 1)) (hp : pc + 1 = pc') (w : Win tb e below P (T.setTop (mkF m pc' ls (.long (x ^^^ y) :: st)))) : Win tb e below P (T.setTop (mkF m pc ls (.long y :: .long x :: st))) := by
  subst hp; exact Win.go (fun _ k => XS.lxor h hx rfl hd rfl k) w
theorem s_iconst {i : Int} {z : Int32} (h : At T m c below) (hx : tb.exec = Jvm.exec) (hd : decode c.code pc = .ok (.iconst i, 1)) (hp : pc + 1 = pc') (hz : Int32.ofInt i = z) (w : Win tb e below P (T.setTop (mkF m pc' ls (.int z :: st)))) : Win tb e below P (T.setTop (mkF m pc ls st)) := by
  subst hp hz; exact Win.go (fun _ k => XS.iconst h hx rfl hd k) w
theorem s_bipush {i : Int} {z : Int32} (h : At T m c below) (hx : tb.exec = Jvm.exec) (hd : decode c.code pc = .ok (.bipush i, 2)) (hp : pc + 2 = pc') (hz : (Int8.ofInt i).toInt32 = z) (w : Win tb e below P (T.setTop (mkF m pc' ls (.int z :: st)))) : Win tb e below P (T.setTop (mkF m pc ls st)) := by
  subst hp hz; exact Win.go (fun _ k => XS.bipush h hx rfl hd k) w
theorem s_sipush {i : Int} {z : Int32} (h : At T m c below) (hx : tb.exec = Jvm.exec) (hd : decode c.code pc = .ok (.sipush i, 3)) (hp : pc + 3 = pc') (hz : (Int16.ofInt i).toInt32 = z) (w : Win tb e below P (T.setTop (mkF m pc' ls (.int z :: st)))) : Win tb e below P (T.setTop (mkF m pc ls st)) := by
  subst hp hz; exact Win.go (fun _ k => XS.sipush h hx rfl hd k) w
theorem s_lconst {i : Fin 2} {z : Int64} (h : At T m c below) (hx : tb.exec = Jvm.exec) (hd : decode c.code pc = .ok (.lconst i, 1)) (hp : pc + 1 = pc') (hz : Int64.ofNat i = z) (w : Win tb e below P (T.setTop (mkF m pc' ls (.long z :: st)))) : Win tb e below P (T.setTop (mkF m pc ls st)) := by
  subst hp hz; exact Win.go (fun _ k => XS.lconst h hx rfl hd k) w
theorem s_goto {o : Int} (h : At T m c below) (hx : tb.exec = Jvm.exec) (hd : decode c.code pc = .ok (.goto o, 3)) (ho : 0 ≤ (pc : Int) + o) (hp : ((pc : Int) + o).toNat = pc') (w : Win tb e below P (T.setTop (mkF m pc' ls st))) : Win tb e below P (T.setTop (mkF m pc ls st)) := by
  exact Win.go (fun _ k => XS.goto h hx rfl rfl hd ho hp k) w
theorem s_icmpYes {cd : ClassFile.Cond} {o : Int} {x y : Int32} (h : At T m c below) (hx : tb.exec = Jvm.exec) (hd : decode c.code pc = .ok (.if_icmp cd o, 3)) (hc : if_icmp.holds cd x y = true) (ho : 0 ≤ (pc : Int) + o) (hp : ((pc : Int) + o).toNat = pc') (w : Win tb e below P (T.setTop (mkF m pc' ls st))) : Win tb e below P (T.setTop (mkF m pc ls (.int y :: .int x :: st))) := by
  exact Win.go (fun _ k => XS.icmpYes h hx rfl rfl hd rfl hc ho hp k) w
theorem s_icmpNo {cd : ClassFile.Cond} {o : Int} {x y : Int32} (h : At T m c below) (hx : tb.exec = Jvm.exec) (hd : decode c.code pc = .ok (.if_icmp cd o, 3)) (hp : pc + 3 = pc') (hc : if_icmp.holds cd x y = false) (w : Win tb e below P (T.setTop (mkF m pc' ls st))) : Win tb e below P (T.setTop (mkF m pc ls (.int y :: .int x :: st))) := by
  subst hp; exact Win.go (fun _ k => XS.icmpNo h hx rfl hd rfl hc k) w
theorem s_ifYes {cd : ClassFile.Cond} {o : Int} {x : Int32} (h : At T m c below) (hx : tb.exec = Jvm.exec) (hd : decode c.code pc = .ok (.ifCond cd o, 3)) (hc : ifCond.holds cd x = true) (ho : 0 ≤ (pc : Int) + o) (hp : ((pc : Int) + o).toNat = pc') (w : Win tb e below P (T.setTop (mkF m pc' ls st))) : Win tb e below P (T.setTop (mkF m pc ls (.int x :: st))) := by
  exact Win.go (fun _ k => XS.ifYes h hx rfl rfl hd rfl hc ho hp k) w
theorem s_ifNo {cd : ClassFile.Cond} {o : Int} {x : Int32} (h : At T m c below) (hx : tb.exec = Jvm.exec) (hd : decode c.code pc = .ok (.ifCond cd o, 3)) (hp : pc + 3 = pc') (hc : ifCond.holds cd x = false) (w : Win tb e below P (T.setTop (mkF m pc' ls st))) : Win tb e below P (T.setTop (mkF m pc ls (.int x :: st))) := by
  subst hp; exact Win.go (fun _ k => XS.ifNo h hx rfl hd rfl hc k) w
theorem s_lcmp {x y : Int64} (h : At T m c below) (hx : tb.exec = Jvm.exec) (hd : decode c.code pc = .ok (.lcmp, 1)) (hp : pc + 1 = pc') (w : Win tb e below P (T.setTop (mkF m pc' ls (.int (lcmpW x y) :: st)))) : Win tb e below P (T.setTop (mkF m pc ls (.long y :: .long x :: st))) := by
  subst hp; exact Win.go (fun _ k => XS.lcmp h hx rfl hd rfl k) w
theorem s_istore {k : Nat} {x : Int32} {l' : Array Slot} (h : At T m c below) (hx : tb.exec = Jvm.exec) (hd : decode c.code pc = .ok (.istore k, 2)) (hp : pc + 2 = pc') (hl : storeLocals ls k (.int x) = some l') (w : Win tb e below P (T.setTop (mkF m pc' l' st))) : Win tb e below P (T.setTop (mkF m pc ls (.int x :: st))) := by
  subst hp; exact Win.go (fun _ k => XS.istore h hx rfl hd rfl hl k) w
theorem s_istoreN {k : Fin 4} {x : Int32} {l' : Array Slot} (h : At T m c below) (hx : tb.exec = Jvm.exec) (hd : decode c.code pc = .ok (.istore_n k, 1)) (hp : pc + 1 = pc') (hl : storeLocals ls k.val (.int x) = some l') (w : Win tb e below P (T.setTop (mkF m pc' l' st))) : Win tb e below P (T.setTop (mkF m pc ls (.int x :: st))) := by
  subst hp; exact Win.go (fun _ k => XS.istoreN h hx rfl hd rfl hl k) w
theorem s_lstore {k : Nat} {x : Int64} {l' : Array Slot} (h : At T m c below) (hx : tb.exec = Jvm.exec) (hd : decode c.code pc = .ok (.lstore k, 2)) (hp : pc + 2 = pc') (hl : storeLocals ls k (.long x) = some l') (w : Win tb e below P (T.setTop (mkF m pc' l' st))) : Win tb e below P (T.setTop (mkF m pc ls (.long x :: st))) := by
  subst hp; exact Win.go (fun _ k => XS.lstore h hx rfl hd rfl hl k) w
theorem s_lstoreN {k : Fin 4} {x : Int64} {l' : Array Slot} (h : At T m c below) (hx : tb.exec = Jvm.exec) (hd : decode c.code pc = .ok (.lstore_n k, 1)) (hp : pc + 1 = pc') (hl : storeLocals ls k.val (.long x) = some l') (w : Win tb e below P (T.setTop (mkF m pc' l' st))) : Win tb e below P (T.setTop (mkF m pc ls (.long x :: st))) := by
  subst hp; exact Win.go (fun _ k => XS.lstoreN h hx rfl hd rfl hl k) w
theorem s_astore {k : Nat} {x : Value} {l' : Array Slot} (h : At T m c below) (hx : tb.exec = Jvm.exec) (hd : decode c.code pc = .ok (.astore k, 2)) (hp : pc + 2 = pc') (hv : x.isRef = true) (hl : storeLocals ls k x = some l') (w : Win tb e below P (T.setTop (mkF m pc' l' st))) : Win tb e below P (T.setTop (mkF m pc ls (x :: st))) := by
  subst hp; exact Win.go (fun _ k => XS.astore h hx rfl hd rfl hv hl k) w
theorem s_astoreN {k : Fin 4} {x : Value} {l' : Array Slot} (h : At T m c below) (hx : tb.exec = Jvm.exec) (hd : decode c.code pc = .ok (.astore_n k, 1)) (hp : pc + 1 = pc') (hv : x.isRef = true) (hl : storeLocals ls k.val x = some l') (w : Win tb e below P (T.setTop (mkF m pc' l' st))) : Win tb e below P (T.setTop (mkF m pc ls (x :: st))) := by
  subst hp; exact Win.go (fun _ k => XS.astoreN h hx rfl hd rfl hv hl k) w
theorem s_dup {x : Value} (h : At T m c below) (hx : tb.exec = Jvm.exec) (hd : decode c.code pc = .ok (.dup, 1)) (hp : pc + 1 = pc') (hc : x.category = 1) (w : Win tb e below P (T.setTop (mkF m pc' ls (x :: x :: st)))) : Win tb e below P (T.setTop (mkF m pc ls (x :: st))) := by
  subst hp; exact Win.go (fun _ k => XS.dup h hx rfl hd rfl hc k) w
end Steps
/-- an array of ints by its places: place j holds f j -/
def AF (Z : State) (h : Heap) (a : Addr) (ty : FieldType) (n : Nat) (f : Int → Int32) : Prop := ∃ cl : Cell, Arr Z h a cl ty ∧ cl.slots.size = n ∧ ∀ j : Int32, 0 ≤ j.toInt → j.toInt < n → cl.slots[j.toNatClampNeg]? = some (.int (f j.toInt))
section AFs
variable {Z : State} {h h' : Heap} {a b : Addr} {ty : FieldType} {n : Nat} {f : Int → Int32} {ws : List Addr} {sl : Nat} {v : Value}
theorem AF.lt (F : AF Z h a ty n f) : a < h.size := by obtain ⟨c, A, -⟩ := F; exact A.lt
theorem AF.ext (F : AF Z h a ty n f) (E : Ext h h') : AF Z h' a ty n f := by obtain ⟨c, A, r⟩ := F; exact ⟨c, A.ext E, r⟩
theorem AF.other (F : AF Z h b ty n f) (W : Wr h h' a sl v) (q : b ≠ a) : AF Z h' b ty n f := by obtain ⟨c, A, r⟩ := F; exact ⟨c, A.other W q, r⟩
theorem AF.keep (F : AF Z h a ty n f) (K : Keep h h' ws) (q : a ∉ ws) : AF Z h' a ty n f := by obtain ⟨c, A, r⟩ := F; exact ⟨c, ⟨K.2.1 a c A.1 q, A.2⟩, r⟩
theorem AF.inb {c : Cell} {j : Int32} (S : c.slots.size = n) (q : 0 ≤ j.toInt ∧ j.toInt < n) : ¬ (j < 0 ∨ c.slots.size ≤ j.toNatClampNeg) := by
  rw [S, Int32.lt_iff_toInt_lt]; have e0 : (0 : Int32).toInt = 0 := rfl
  simp only [Int32.toNatClampNeg]; omega
def updF (f : Int → Int32) (j : Int) (v : Int32) : Int → Int32 := fun i => if i = j then v else f i
theorem updF_hit (f : Int → Int32) (j : Int) (v : Int32) : updF f j v j = v := if_pos rfl
theorem updF_miss {f : Int → Int32} {i j : Int} {v : Int32} (q : i ≠ j) : updF f j v i = f i := if_neg q
theorem AF.set {cl : Cell} {j v : Int32} (A : Arr Z h a cl ty) (S : cl.slots.size = n) (G : ∀ j : Int32, 0 ≤ j.toInt → j.toInt < n → cl.slots[j.toNatClampNeg]? = some (.int (f j.toInt))) (W : Wr h h' a j.toNatClampNeg (.int v)) (q : 0 ≤ j.toInt ∧ j.toInt < n) : AF Z h' a ty n (updF f j.toInt v) := by
  have e0 : (0 : Int32).toInt = 0 := rfl
  refine ⟨_, A.same W, by rw [sz_set]; exact S, fun k h0 h1 => ?_⟩
  by_cases e : k = j
  · subst e; rw [get_hit (AF.inb S q) rfl, updF_hit]
  · rw [get_miss (by rw [Int32.lt_iff_toInt_lt]; omega) (by rw [Int32.lt_iff_toInt_lt]; omega) e, updF_miss (fun z => e (Int32.toInt_inj.mp z))]; exact G k h0 h1
theorem AF.zero {k : ClassId} {z : Int32} (F : Arv Z h a k ty z [] (.int 0)) (q : z.toNatClampNeg = n) : AF Z h a ty n (fun _ => 0) := by
  obtain ⟨c, A, -, S, -, H, -⟩ := F
  refine ⟨c, A, S.trans q, fun j h0 h1 => ?_⟩
  have e : j.toNatClampNeg = j.toInt.toNat := rfl
  exact H _ (by rw [S, q, e]; omega)
theorem AF.ex {k : ClassId} {z : Int32} {vs : List Value} {dv : Value} (F : Arv Z h a k .byte z vs dv) (q : z.toNatClampNeg = n) : ∃ f, AF Z h a .byte n f := by
  obtain ⟨c, A, -, S, -, H, G⟩ := F
  refine ⟨fun i => match c.slots[i.toNat]? with | some (.int x) => x | _ => 0, c, A, S.trans q, fun j h0 h1 => ?_⟩
  have e : j.toNatClampNeg = j.toInt.toNat := rfl
  have hj : j.toInt.toNat < c.slots.size := by rw [S, q]; omega
  have e1 := H _ hj
  have e2 := G _ hj
  show c.slots[j.toInt.toNat]? = some (.int (match c.slots[j.toInt.toNat]? with | some (.int x) => x | _ => 0))
  cases hv : vs.getD j.toInt.toNat dv <;> rw [hv] at e1 e2 <;> first | (rw [e1]; done) | (exact absurd e2 (by simp [fits]))
/-- a byte array of length z -/
def BA (Z : State) (h : Heap) (a : Addr) (z : Int32) : Prop := ∃ (k : ClassId) (vs : List Value), Arv Z h a k .byte z vs (.int 0)
variable {z : Int32}
theorem BA.lt (F : BA Z h a z) : a < h.size := by obtain ⟨_, _, A⟩ := F; exact A.lt
theorem BA.ext (F : BA Z h a z) (E : Ext h h') : BA Z h' a z := by obtain ⟨k, vs, A⟩ := F; exact ⟨k, vs, A.ext E⟩
theorem BA.other (F : BA Z h b z) (W : Wr h h' a sl v) (q : b ≠ a) : BA Z h' b z := by obtain ⟨k, vs, A⟩ := F; exact ⟨k, vs, A.other W q⟩
theorem BA.keep (F : BA Z h a z) (K : Keep h h' ws) (q : a ∉ ws) : BA Z h' a z := by obtain ⟨k, vs, A⟩ := F; exact ⟨k, vs, A.keep K q⟩
theorem cpBA {p : Program} {l : Launch} {e : Env} {R : Room} {s : State} {m : MethodId} {args : Array Value} {below : List Frame} {meth : Method} {c : Code} {T : State} {locs : List Loc} {cells slots : Nat}
    (X : Stand p l e R s m args below meth c T locs cells slots) (hx : p.tables.exec = Jvm.exec) (hZ : Z.Warmed39 s.vm) {a0 : Array Value} {own : String} {index : Nat} (hown : s.vm.findClass own = some m.cls)
    (w1 : (Cond.methodLink own index Jvm.Stand.acN).before a0 Z = true) (w2 : (Cond.native Jvm.Stand.acN).before a0 Z = true) (w3 : (Cond.static Jvm.Stand.acN).before a0 Z = true) (w4 : (Cond.initialized "java/lang/System").before a0 Z = true) (eT : T.heap = h)
    {z' sp dp nn : Int32} (A : BA Z h a z) (B : BA Z h b z') (h1 : 0 ≤ sp.toInt) (h2 : 0 ≤ dp.toInt) (h3 : 0 ≤ nn.toInt) (h4 : sp.toInt + nn.toInt ≤ z.toInt) (h5 : dp.toInt + nn.toInt ≤ z'.toInt) {n0 : Nat} (N : Fr n0 locs) (ge : n0 ≤ b)
    {g : JFrame} (hg : g.method = m) (hsize : g.locals.size = c.maxLocals) {rest : List Value} (hs : g.stack = .int nn :: .int dp :: .ref b :: .int sp :: .ref a :: rest) (hd : decode c.code g.pc = .ok (.invokestatic index, 3))
    (hf : 1 ≤ R.frames) {W : Nat} (hW : 2 * g.monitorRoom + (rest.map fun v => v.category).sum ≤ W) (hlo : W + (nativeFrameWords "java/lang/System" "arraycopy" 5 + 11) ≤ R.locals) :
    ∃ T' h' L, Stand p l e R s m args below meth c T' L cells slots ∧ T'.heap = h' ∧ Fr n0 L ∧ Keep h h' [b] ∧ BA Z h' b z' ∧
      ∀ target, Steps p.tables e below (T'.setTop { g with pc := g.pc + 3, stack := rest }) target → Steps p.tables e below (T.setTop g) target := by
  have e0 : (0 : Int32).toInt = 0 := rfl
  obtain ⟨k, vs, A⟩ := A
  obtain ⟨k', vd, B⟩ := B
  have B' := B.pad (pad_rep vd (.int 0) z'.toNatClampNeg)
  obtain ⟨T', h', L, X', e', N', K, B2, st⟩ := cpA X hx hZ hown w1 w2 w3 w4 eT A B' (Or.inl ⟨rfl, rfl⟩) (by rw [Int32.lt_iff_toInt_lt]; omega) (by rw [Int32.lt_iff_toInt_lt]; omega) (by rw [Int32.lt_iff_toInt_lt]; omega) (by simp only [Int32.toNatClampNeg]; omega) (by simp only [Int32.toNatClampNeg]; omega) rfl (by simp only [List.length_append, List.length_replicate, Int32.toNatClampNeg]; omega) N ge hg hsize hs hd hf hW hlo
  exact ⟨T', h', L, X', e', N', K, ⟨k', _, B2⟩, st⟩
end AFs
theorem own_selPriv {s : State} {args : Array Value} {y y' : MethodName} (hn : y.cls = y'.cls) (w : (Cond.selects y'.cls y' y').before args s = true) (hpriv : s.PrivateAt y) (hinst : (Cond.instanceMethod y).before args s = true) (hy : y.cls ≠ "java/lang/invoke/MethodHandle" ∧ y.cls ≠ "java/lang/invoke/VarHandle") : (Cond.selects y.cls y y).before args s = true := by
  obtain ⟨c, r, m, h1, -, h3, -, k, h5, h6⟩ := Cond.selects_spec w
  have h7 := findClass_of_methodNamed h3
  cases h1.symm.trans h7
  exact selects_self_of_private (by rw [hn]; exact h7) h5 h6 hpriv hinst hy
theorem own_lremEq (x y : Int64) : x - (x / y) * y = x % y := by
  refine Int64.toInt_inj.mp ?_
  have h1 := rng64 (x % y)
  have e : x.toInt - x.toInt.tdiv y.toInt * y.toInt = (x % y).toInt := by rw [Int64.toInt_mod, Int.tmod_def, Int.mul_comm]
  rw [Int64.toInt_sub, Int64.toInt_mul, Int64.toInt_div, Int.bmod_mul_bmod, Int.sub_bmod_bmod, e]
  exact Int.bmod_eq_of_le_mul_two (by omega) (by omega)
theorem lremM {p : Program} {l : Launch} {e : Env} {R : Room} {s : State} {m : MethodId} {args : Array Value} {below : List Frame} {meth : Method} {c : Code} {T : State} {locs : List Loc} {cells slots : Nat} {g : JFrame} {target : State} (X : Stand p l e R s m args below meth c T locs cells slots) (hx : p.tables.exec = Jvm.exec) (hg : g.method = m) {x y : Int64} {rest : List Value} (hd : decode c.code g.pc = .ok (.lrem, 1)) (hs : g.stack = .long y :: .long x :: rest) (hy : y ≠ 0)
    (hr : Steps p.tables e below (T.setTop { g with pc := g.pc + 1, stack := .long (x % y) :: rest }) target) : Steps p.tables e below (T.setTop g) target :=
  XS.lrem X.here hx hg hd hs hy (by rw [own_lremEq]; exact hr)
/-! comparisons by the numbers -/
theorem tltI {x y : Int32} (h : x.toInt < y.toInt) : if_icmp.holds .lt x y = true ∧ if_icmp.holds .ge x y = false ∧ if_icmp.holds .gt y x = true ∧ if_icmp.holds .le y x = false := tlt (Int32.lt_iff_toInt_lt.mpr h)
theorem fltI {x y : Int32} (h : ¬ x.toInt < y.toInt) : if_icmp.holds .lt x y = false ∧ if_icmp.holds .ge x y = true ∧ if_icmp.holds .gt y x = false ∧ if_icmp.holds .le y x = true := flt (fun q => h (Int32.lt_iff_toInt_lt.mp q))
theorem teqI {x y : Int32} (h : x.toInt = y.toInt) : if_icmp.holds .eq x y = true ∧ if_icmp.holds .ne x y = false := teq (Int32.toInt_inj.mp h)
theorem feqI {x y : Int32} (h : ¬ x.toInt = y.toInt) : if_icmp.holds .eq x y = false ∧ if_icmp.holds .ne x y = true := feq (fun q => h (congrArg _ q))
theorem tltZ {x y : Int32} (h : x.toInt < y.toInt) : (y = 0 → ifCond.holds .lt x = true ∧ ifCond.holds .ge x = false) ∧ (x = 0 → ifCond.holds .gt y = true ∧ ifCond.holds .le y = false) :=
  ⟨fun q => by subst q; exact ⟨(if0 _ _).trans (tltI h).1, (if0 _ _).trans (tltI h).2.1⟩, fun q => by subst q; exact ⟨(if0 _ _).trans (tltI h).2.2.1, (if0 _ _).trans (tltI h).2.2.2⟩⟩
theorem tltL {x y : Int64} (h : x.toInt < y.toInt) : ifCond.holds .lt (lcmpW x y) = true ∧ ifCond.holds .ge (lcmpW x y) = false ∧ ifCond.holds .gt (lcmpW y x) = true ∧ ifCond.holds .le (lcmpW y x) = false :=
  have h' := Int64.lt_iff_toInt_lt.mpr h
  ⟨(if0 _ _).trans (tlt ((lw_lt x y).mpr h')).1, (if0 _ _).trans (tlt ((lw_lt x y).mpr h')).2.1, (if0 _ _).trans (tlt ((lw_gt y x).mpr h')).2.2.1, (if0 _ _).trans (tlt ((lw_gt y x).mpr h')).2.2.2⟩
theorem fltL {x y : Int64} (h : ¬ x.toInt < y.toInt) : ifCond.holds .lt (lcmpW x y) = false ∧ ifCond.holds .ge (lcmpW x y) = true ∧ ifCond.holds .gt (lcmpW y x) = false ∧ ifCond.holds .le (lcmpW y x) = true :=
  have h1 : ¬ lcmpW x y < 0 := fun q => h (Int64.lt_iff_toInt_lt.mp ((lw_lt x y).mp q))
  have h2 : ¬ 0 < lcmpW y x := fun q => h (Int64.lt_iff_toInt_lt.mp ((lw_gt y x).mp q))
  ⟨(if0 _ _).trans (flt h1).1, (if0 _ _).trans (flt h1).2.1, (if0 _ _).trans (flt h2).2.2.1, (if0 _ _).trans (flt h2).2.2.2⟩
theorem teqL {x y : Int64} (h : x.toInt = y.toInt) : ifCond.holds .eq (lcmpW x y) = true ∧ ifCond.holds .ne (lcmpW x y) = false :=
  have h' := (lw_eq x y).mpr (Int64.toInt_inj.mp h)
  ⟨(if0 _ _).trans (teq h').1, (if0 _ _).trans (teq h').2⟩
theorem feqL {x y : Int64} (h : ¬ x.toInt = y.toInt) : ifCond.holds .eq (lcmpW x y) = false ∧ ifCond.holds .ne (lcmpW x y) = true :=
  have h' : ¬ lcmpW x y = 0 := fun q => h (congrArg _ ((lw_eq x y).mp q))
  ⟨(if0 _ _).trans (feq h').1, (if0 _ _).trans (feq h').2⟩
end Jvm.OwnWalk
namespace Jvm.Pilot.@@N@@
open Jvm Jvm.ClassFile Sem Op Lib Jvm.Free Jvm.Stand Jvm.LawKit Jvm.RoadKit Bundle Jvm.OwnWalk Jvm.Pilot.@@N@@.Jvm.D
theorem own_fin {v : Int32} {N : Nat} (h0 : 0 ≤ v.toInt) (h1 : v.toInt < N) : ∃ k : Fin N, v = Int32.ofNat k.val := by
  refine ⟨⟨v.toInt.toNat, by omega⟩, Int32.toInt_inj.mp ?_⟩
  have := v.toInt_lt
  rw [Int32.toInt_ofNat_of_lt (by simp only; omega)]; simp only; omega
def bit0 (n : Int32) : Int64 := if ((n / (64 : Int32))).toInt = (0 : Int) then ((1 : Int64) <<< (((n - (0 : Int32))).toInt64 &&& 63)) else 0
def bit1 (n : Int32) : Int64 := if ((n / (64 : Int32))).toInt = (1 : Int) then ((1 : Int64) <<< (((n - (64 : Int32))).toInt64 &&& 63)) else 0
theorem own_bits : ∀ k : Fin 128, (k.val < 64 → bit0 (Int32.ofNat k.val) = ((1 : Int64) <<< ((((Int32.ofNat k.val) % (64 : Int32))).toInt64 &&& 63)) ∧ bit1 (Int32.ofNat k.val) = 0) ∧ (64 ≤ k.val → bit1 (Int32.ofNat k.val) = ((1 : Int64) <<< ((((Int32.ofNat k.val) % (64 : Int32))).toInt64 &&& 63)) ∧ bit0 (Int32.ofNat k.val) = 0) := by decide +kernel
theorem own_lo {v : Int32} (h0 : 0 ≤ v.toInt) (h1 : v.toInt < 64) : bit0 v = ((1 : Int64) <<< (((v % (64 : Int32))).toInt64 &&& 63)) ∧ bit1 v = 0 := by
  obtain ⟨k, rfl⟩ := own_fin (N := 128) h0 (by omega)
  refine (own_bits k).1 ?_
  rw [Int32.toInt_ofNat_of_lt (by have := k.isLt; omega)] at h1; omega
theorem own_hi {v : Int32} (h0 : 64 ≤ v.toInt) (h1 : v.toInt < 128) : bit1 v = ((1 : Int64) <<< (((v % (64 : Int32))).toInt64 &&& 63)) ∧ bit0 v = 0 := by
  obtain ⟨k, rfl⟩ := own_fin (N := 128) (by omega) h1
  refine (own_bits k).2 ?_
  rw [Int32.toInt_ofNat_of_lt (by have := k.isLt; omega)] at h0; omega
theorem own_d {v : Int32} (h0 : 0 ≤ v.toInt) : ((v / (64 : Int32))).toInt = v.toInt / 64 := (c_idiv v 64 64 rfl (by decide)).1 h0
theorem own_five {v : Int32} (h0 : 0 ≤ v.toInt) (h1 : v.toInt ≤ 4) : v = 0 ∨ v = 1 ∨ v = 2 ∨ v = 3 ∨ v = 4 := by
  have e : ∀ k : Int32, v.toInt = k.toInt → v = k := fun k q => Int32.toInt_inj.mp q
  have : v.toInt = 0 ∨ v.toInt = 1 ∨ v.toInt = 2 ∨ v.toInt = 3 ∨ v.toInt = 4 := by omega
  rcases this with q | q | q | q | q
  · exact Or.inl (e 0 q)
  · exact Or.inr (Or.inl (e 1 q))
  · exact Or.inr (Or.inr (Or.inl (e 2 q)))
  · exact Or.inr (Or.inr (Or.inr (Or.inl (e 3 q))))
  · exact Or.inr (Or.inr (Or.inr (Or.inr (e 4 q))))
theorem d4_0 : decode jdk_29_method_69_code 0 = .ok (.iload_n 0, 1) := by decide +kernel
theorem d4_1 : decode jdk_29_method_69_code 1 = .ok (.iload_n 1, 1) := by decide +kernel
theorem d4_2 : decode jdk_29_method_69_code 2 = .ok (.if_icmp .gt 7, 3) := by decide +kernel
theorem d4_5 : decode jdk_29_method_69_code 5 = .ok (.iload_n 0, 1) := by decide +kernel
theorem d4_6 : decode jdk_29_method_69_code 6 = .ok (.goto 4, 3) := by decide +kernel
theorem d4_9 : decode jdk_29_method_69_code 9 = .ok (.iload_n 1, 1) := by decide +kernel
theorem d4_10 : decode jdk_29_method_69_code 10 = .ok (.ireturn, 1) := by decide +kernel
theorem ef_4 (m : MethodId) (a : Int32) (b : Int32) : entryFrame m #[(.int a), (.int b)] 2 = mkF m 0 #[.val (.int a), .val (.int b)] [] := by first | (simp [entryFrame, mkF, argsToLocals, Value.category]; done) | rfl
def Q4 (Z : State) (a : Int32) (b : Int32) (h0 : Heap) (n0 : Nat) (v : Option Value) (h : Heap) (L : List Loc) : Prop := Fr n0 L ∧ h = h0 ∧ (∃ z : Int32, v = some (.int z) ∧ (z.toInt ≤ a.toInt ∧ z.toInt ≤ b.toInt ∧ (z.toInt = a.toInt ∨ z.toInt = b.toInt)))
set_option maxRecDepth 65536 in
set_option maxHeartbeats 40000000 in
theorem rm4 (l : Launch) (Z : State) (a0 : Array Value) (hw : ∀ d ∈ tables_1, d.before a0 Z = true) (ws : List Jvm.Cond) (a : Int32) (b : Int32) (h0 : Heap) (n0 : Nat) (Zs : n0 ≤ h0.size) :
    MetFree l (⟨"java/lang/Math", "min", "(II)I"⟩ : MethodName) (head1 (Jvm.Cond.code (⟨"java/lang/Math", "min", "(II)I"⟩ : MethodName) jdk_29_method_69_code 2 (some .int) :: ws) ({ frames := 0, cells := 0, slots := 0, locals := 0 } : Room)) (fun as' U => as' = #[(.int a), (.int b)] ∧ Z.Warmed39 U.vm ∧ U.heap = h0) (fun _ _ _ _ _ => True) (fun _ U o U' => ∃ v L, o = .returned v ∧ Q4 Z a b h0 n0 v U'.heap L ∧ FrameEnd U o U' L ({ frames := 0, cells := 0, slots := 0, locals := 0 } : Room).cells ({ frames := 0, cells := 0, slots := 0, locals := 0 } : Room).slots) := by
  refine MetFree.of_bodySF (Jvm.Free.JP.mathPlain rfl (by decide +kernel)) hisR ?_
  intro p e s m args below meth c s₁ Bd hml0 hP hK
  obtain ⟨rfl, hZ, hh⟩ := hP
  have hx := Bd.exec
  have hby := Bd.bytes
  have hml : c.maxLocals = 2 := hml0
  have hown : s.vm.findClass "java/lang/Math" = some m.cls := findClass_of_methodNamed Bd.named
  have hnm := (name_of_methodNamed Bd.named Bd.method).1
  have hlk : meth.locks = false := Bd.notSynchronized
  have X0 : Stand p l e ({ frames := 0, cells := 0, slots := 0, locals := 0 } : Room) s m #[(.int a), (.int b)] below meth c s₁ [] 0 0 := Stand.of_body Bd
  have e0 : s₁.heap = h0 := by rw [← hh, Bd.state]; rfl
  have Nf := Fr.nil n0
  refine (?_ : Win p.tables e below (PostQ s (Q4 Z a b h0 n0) ({ frames := 0, cells := 0, slots := 0, locals := 0 } : Room).cells ({ frames := 0, cells := 0, slots := 0, locals := 0 } : Room).slots) (s₁.setTop (entryFrame m #[(.int a), (.int b)] 2)))
  rw [ef_4]
  show Win p.tables e below _ (s₁.setTop (mkF m 0 #[.val (.int a), .val (.int b)] []))
  refine s_iloadN (pc' := 1) X0.here hx (hb hby d4_0) rfl rfl ?_
  refine s_iloadN (pc' := 2) X0.here hx (hb hby d4_1) rfl rfl ?_
  by_cases hc2 : (b).toInt < (a).toInt
  · skip
    refine s_icmpYes (pc' := 9) X0.here hx (hb hby d4_2) (tltI (x := b) (y := a) hc2).2.2.1 (by decide) (by decide) ?_
    refine s_iloadN (pc' := 10) X0.here hx (hb hby d4_9) rfl rfl ?_
    refine winI X0 hx hlk e0 Bd.returns (hb hby d4_10) (by decide) (by decide) ?_
    exact ⟨Nf, rfl, _, rfl, by omega⟩
  · skip
    refine s_icmpNo (pc' := 5) X0.here hx (hb hby d4_2) rfl (fltI (x := b) (y := a) hc2).2.2.1 ?_
    refine s_iloadN (pc' := 6) X0.here hx (hb hby d4_5) rfl rfl ?_
    refine s_goto (pc' := 10) X0.here hx (hb hby d4_6) (by decide) (by decide) ?_
    refine winI X0 hx hlk e0 Bd.returns (hb hby d4_10) (by decide) (by decide) ?_
    exact ⟨Nf, rfl, _, rfl, by omega⟩
theorem d1_0 : decode method_3_code 0 = .ok (.iload_n 0, 1) := by decide +kernel
theorem d1_1 : decode method_3_code 1 = .ok (.ifCond .ne 7, 3) := by decide +kernel
theorem d1_4 : decode method_3_code 4 = .ok (.iconst 0, 1) := by decide +kernel
theorem d1_5 : decode method_3_code 5 = .ok (.newarray .int, 2) := by decide +kernel
theorem d1_7 : decode method_3_code 7 = .ok (.areturn, 1) := by decide +kernel
theorem pn_1 : plainName "com/example/faithful_deputy/faithfuldeputy/BitsKeepOnlyPinLaw" = true := by first | (simp [plainName, overriddenIn]; done) | decide +kernel
theorem ef_1_0 (m : MethodId) (p1 : Int32) (p2 : Int32) (p3 : Int32) (p4 : Int32) : entryFrame m #[(.int (0 : Int32)), (.int p1), (.int p2), (.int p3), (.int p4)] 5 = mkF m 0 #[.val (.int (0 : Int32)), .val (.int p1), .val (.int p2), .val (.int p3), .val (.int p4)] [] := by first | (simp [entryFrame, mkF, argsToLocals, Value.category]; done) | rfl
def Q1_0 (Z : State) (p1 : Int32) (p2 : Int32) (p3 : Int32) (p4 : Int32) (h0 : Heap) (n0 : Nat) (v : Option Value) (h : Heap) (L : List Loc) : Prop := Fr n0 L ∧ Keep h0 h [] ∧ (∃ (b : Addr) (kk : ClassId), v = some (.ref b) ∧ n0 ≤ b ∧ h0.size ≤ b ∧ Arv Z h b kk .int (0 : Int32) [] (.int (0 : Int32)))
set_option maxRecDepth 65536 in
set_option maxHeartbeats 40000000 in
theorem rm1_0 (l : Launch) (Z : State) (a0 : Array Value) (hw : ∀ d ∈ tables_1, d.before a0 Z = true) (ws : List Jvm.Cond) (p1 : Int32) (p2 : Int32) (p3 : Int32) (p4 : Int32) (h0 : Heap) (n0 : Nat) (Zs : n0 ≤ h0.size) :
    MetFree l (⟨"com/example/faithful_deputy/faithfuldeputy/BitsKeepOnlyPinLaw", "list", "(IIIII)[I"⟩ : MethodName) (head1 (Jvm.Cond.code (⟨"com/example/faithful_deputy/faithfuldeputy/BitsKeepOnlyPinLaw", "list", "(IIIII)[I"⟩ : MethodName) method_3_code 5 (some (.array .int)) :: ws) ({ frames := 0, cells := 1, slots := 0, locals := 0 } : Room)) (fun as' U => as' = #[(.int (0 : Int32)), (.int p1), (.int p2), (.int p3), (.int p4)] ∧ Z.Warmed39 U.vm ∧ U.heap = h0) (fun _ _ _ _ _ => True) (fun _ U o U' => ∃ v L, o = .returned v ∧ Q1_0 Z p1 p2 p3 p4 h0 n0 v U'.heap L ∧ FrameEnd U o U' L ({ frames := 0, cells := 1, slots := 0, locals := 0 } : Room).cells ({ frames := 0, cells := 1, slots := 0, locals := 0 } : Room).slots) := by
  refine MetFree.of_bodySF (plainFor_of_name pn_1) hisR ?_
  intro p e s m args below meth c s₁ Bd hml0 hP hK
  obtain ⟨rfl, hZ, hh⟩ := hP
  have hx := Bd.exec
  have hby := Bd.bytes
  have hml : c.maxLocals = 5 := hml0
  have hown : s.vm.findClass "com/example/faithful_deputy/faithfuldeputy/BitsKeepOnlyPinLaw" = some m.cls := findClass_of_methodNamed Bd.named
  have hnm := (name_of_methodNamed Bd.named Bd.method).1
  have hlk : meth.locks = false := Bd.notSynchronized
  have X0 : Stand p l e ({ frames := 0, cells := 1, slots := 0, locals := 0 } : Room) s m #[(.int (0 : Int32)), (.int p1), (.int p2), (.int p3), (.int p4)] below meth c s₁ [] 0 0 := Stand.of_body Bd
  have e0 : s₁.heap = h0 := by rw [← hh, Bd.state]; rfl
  have Nf := Fr.nil n0
  refine (?_ : Win p.tables e below (PostQ s (Q1_0 Z p1 p2 p3 p4 h0 n0) ({ frames := 0, cells := 1, slots := 0, locals := 0 } : Room).cells ({ frames := 0, cells := 1, slots := 0, locals := 0 } : Room).slots) (s₁.setTop (entryFrame m #[(.int (0 : Int32)), (.int p1), (.int p2), (.int p3), (.int p4)] 5)))
  rw [ef_1_0]
  have Kp : Keep h0 h0 [] := Keep.refl h0 _
  show Win p.tables e below _ (s₁.setTop (mkF m 0 #[.val (.int (0 : Int32)), .val (.int p1), .val (.int p2), .val (.int p3), .val (.int p4)] []))
  refine s_iloadN (pc' := 1) X0.here hx (hb hby d1_0) rfl rfl ?_
  refine s_ifNo (pc' := 4) X0.here hx (hb hby d1_1) rfl ((if0 _ _).trans (teqI (x := (0 : Int32)) (y := (0 : Int32)) (by decide)).2) ?_
  refine s_iconst (pc' := 5) (z := (0 : Int32)) X0.here hx (hb hby d1_4) rfl rfl ?_
  obtain ⟨T_1, h_1, k_1, X_1, e_1, Ex_1, A_1, EA_1, st_1⟩ := newPE X0 hx hZ (hw _ (List.mem_of_getElem? (i := 5) rfl)) e0 (g := (mkF m 5 #[.val (.int (0 : Int32)), .val (.int p1), .val (.int p2), .val (.int p3), .val (.int p4)] [(.int (0 : Int32))])) rfl (hb hby d1_5) rfl (by decide) (cap := 0) (by decide) (by decide) (by decide) (by decide) (ad := "[I") (by decide)
  obtain ⟨b_1, g_1⟩ : ∃ z, z = h0.size := ⟨_, rfl⟩
  have g_b_1 : n0 ≤ b_1 := Nat.le_trans Zs (Nat.le_of_eq g_1.symm)
  have sz_b_1 : h0.size ≤ b_1 := Nat.le_trans Kp.1 (Nat.le_of_eq g_1.symm)
  rw [← g_1] at A_1 EA_1 st_1
  replace Zs := Nat.le_trans Zs Ex_1.1
  replace Kp := Kp.ext Ex_1
  have V_b_1 : Arv Z h_1 b_1 k_1 .int (0 : Int32) [] (.int (0 : Int32)) := (Arv.new A_1 (by decide)).pad (pad_rep [] (.int (0 : Int32)) 0)
  have lt_b_1 := V_b_1.lt
  have E_b_1 := EA_1
  refine Win.go st_1 ?_
  clear st_1 Ex_1 A_1 EA_1 g_1 X0 e0
  show Win p.tables e below _ (T_1.setTop (mkF m 7 #[.val (.int (0 : Int32)), .val (.int p1), .val (.int p2), .val (.int p3), .val (.int p4)] [(.ref b_1)]))
  refine winA X_1 hx hlk e_1 Bd.returns rfl rfl (hb hby d1_7) (by decide) (by decide) ?_
  exact ⟨Nf, Kp, b_1, k_1, rfl, g_b_1, sz_b_1, V_b_1⟩
theorem d1_8 : decode method_3_code 8 = .ok (.iload_n 0, 1) := by decide +kernel
theorem d1_9 : decode method_3_code 9 = .ok (.iconst 1, 1) := by decide +kernel
theorem d1_10 : decode method_3_code 10 = .ok (.if_icmp .ne 11, 3) := by decide +kernel
theorem d1_13 : decode method_3_code 13 = .ok (.iconst 1, 1) := by decide +kernel
theorem d1_14 : decode method_3_code 14 = .ok (.newarray .int, 2) := by decide +kernel
theorem d1_16 : decode method_3_code 16 = .ok (.dup, 1) := by decide +kernel
theorem d1_17 : decode method_3_code 17 = .ok (.iconst 0, 1) := by decide +kernel
theorem d1_18 : decode method_3_code 18 = .ok (.iload_n 1, 1) := by decide +kernel
theorem d1_19 : decode method_3_code 19 = .ok (.iastore, 1) := by decide +kernel
theorem d1_20 : decode method_3_code 20 = .ok (.areturn, 1) := by decide +kernel
theorem ef_1_1 (m : MethodId) (p1 : Int32) (p2 : Int32) (p3 : Int32) (p4 : Int32) : entryFrame m #[(.int (1 : Int32)), (.int p1), (.int p2), (.int p3), (.int p4)] 5 = mkF m 0 #[.val (.int (1 : Int32)), .val (.int p1), .val (.int p2), .val (.int p3), .val (.int p4)] [] := by first | (simp [entryFrame, mkF, argsToLocals, Value.category]; done) | rfl
def Q1_1 (Z : State) (p1 : Int32) (p2 : Int32) (p3 : Int32) (p4 : Int32) (h0 : Heap) (n0 : Nat) (v : Option Value) (h : Heap) (L : List Loc) : Prop := Fr n0 L ∧ Keep h0 h [] ∧ (∃ (b : Addr) (kk : ClassId), v = some (.ref b) ∧ n0 ≤ b ∧ h0.size ≤ b ∧ Arv Z h b kk .int (1 : Int32) [(.int p1)] (.int (0 : Int32)))
set_option maxRecDepth 65536 in
set_option maxHeartbeats 40000000 in
theorem rm1_1 (l : Launch) (Z : State) (a0 : Array Value) (hw : ∀ d ∈ tables_1, d.before a0 Z = true) (ws : List Jvm.Cond) (p1 : Int32) (p2 : Int32) (p3 : Int32) (p4 : Int32) (h0 : Heap) (n0 : Nat) (Zs : n0 ≤ h0.size) :
    MetFree l (⟨"com/example/faithful_deputy/faithfuldeputy/BitsKeepOnlyPinLaw", "list", "(IIIII)[I"⟩ : MethodName) (head1 (Jvm.Cond.code (⟨"com/example/faithful_deputy/faithfuldeputy/BitsKeepOnlyPinLaw", "list", "(IIIII)[I"⟩ : MethodName) method_3_code 5 (some (.array .int)) :: ws) ({ frames := 0, cells := 1, slots := 1, locals := 0 } : Room)) (fun as' U => as' = #[(.int (1 : Int32)), (.int p1), (.int p2), (.int p3), (.int p4)] ∧ Z.Warmed39 U.vm ∧ U.heap = h0) (fun _ _ _ _ _ => True) (fun _ U o U' => ∃ v L, o = .returned v ∧ Q1_1 Z p1 p2 p3 p4 h0 n0 v U'.heap L ∧ FrameEnd U o U' L ({ frames := 0, cells := 1, slots := 1, locals := 0 } : Room).cells ({ frames := 0, cells := 1, slots := 1, locals := 0 } : Room).slots) := by
  refine MetFree.of_bodySF (plainFor_of_name pn_1) hisR ?_
  intro p e s m args below meth c s₁ Bd hml0 hP hK
  obtain ⟨rfl, hZ, hh⟩ := hP
  have hx := Bd.exec
  have hby := Bd.bytes
  have hml : c.maxLocals = 5 := hml0
  have hown : s.vm.findClass "com/example/faithful_deputy/faithfuldeputy/BitsKeepOnlyPinLaw" = some m.cls := findClass_of_methodNamed Bd.named
  have hnm := (name_of_methodNamed Bd.named Bd.method).1
  have hlk : meth.locks = false := Bd.notSynchronized
  have X0 : Stand p l e ({ frames := 0, cells := 1, slots := 1, locals := 0 } : Room) s m #[(.int (1 : Int32)), (.int p1), (.int p2), (.int p3), (.int p4)] below meth c s₁ [] 0 0 := Stand.of_body Bd
  have e0 : s₁.heap = h0 := by rw [← hh, Bd.state]; rfl
  have Nf := Fr.nil n0
  refine (?_ : Win p.tables e below (PostQ s (Q1_1 Z p1 p2 p3 p4 h0 n0) ({ frames := 0, cells := 1, slots := 1, locals := 0 } : Room).cells ({ frames := 0, cells := 1, slots := 1, locals := 0 } : Room).slots) (s₁.setTop (entryFrame m #[(.int (1 : Int32)), (.int p1), (.int p2), (.int p3), (.int p4)] 5)))
  rw [ef_1_1]
  have Kp : Keep h0 h0 [] := Keep.refl h0 _
  show Win p.tables e below _ (s₁.setTop (mkF m 0 #[.val (.int (1 : Int32)), .val (.int p1), .val (.int p2), .val (.int p3), .val (.int p4)] []))
  refine s_iloadN (pc' := 1) X0.here hx (hb hby d1_0) rfl rfl ?_
  refine s_ifYes (pc' := 8) X0.here hx (hb hby d1_1) ((if0 _ _).trans (feqI (x := (1 : Int32)) (y := (0 : Int32)) (by decide)).2) (by decide) (by decide) ?_
  refine s_iloadN (pc' := 9) X0.here hx (hb hby d1_8) rfl rfl ?_
  refine s_iconst (pc' := 10) (z := (1 : Int32)) X0.here hx (hb hby d1_9) rfl rfl ?_
  refine s_icmpNo (pc' := 13) X0.here hx (hb hby d1_10) rfl (teqI (x := (1 : Int32)) (y := (1 : Int32)) (by decide)).2 ?_
  refine s_iconst (pc' := 14) (z := (1 : Int32)) X0.here hx (hb hby d1_13) rfl rfl ?_
  obtain ⟨T_2, h_2, k_2, X_2, e_2, Ex_2, A_2, EA_2, st_2⟩ := newPE X0 hx hZ (hw _ (List.mem_of_getElem? (i := 5) rfl)) e0 (g := (mkF m 14 #[.val (.int (1 : Int32)), .val (.int p1), .val (.int p2), .val (.int p3), .val (.int p4)] [(.int (1 : Int32))])) rfl (hb hby d1_14) rfl (by decide) (cap := 1) (by decide) (by decide) (by decide) (by decide) (ad := "[I") (by decide)
  obtain ⟨b_2, g_2⟩ : ∃ z, z = h0.size := ⟨_, rfl⟩
  have g_b_2 : n0 ≤ b_2 := Nat.le_trans Zs (Nat.le_of_eq g_2.symm)
  have sz_b_2 : h0.size ≤ b_2 := Nat.le_trans Kp.1 (Nat.le_of_eq g_2.symm)
  rw [← g_2] at A_2 EA_2 st_2
  replace Zs := Nat.le_trans Zs Ex_2.1
  replace Kp := Kp.ext Ex_2
  have V_b_2 : Arv Z h_2 b_2 k_2 .int (1 : Int32) [(.int (0 : Int32))] (.int (0 : Int32)) := (Arv.new A_2 (by decide)).pad (pad_rep [] (.int (0 : Int32)) 1)
  have lt_b_2 := V_b_2.lt
  have E_b_2 := EA_2
  refine Win.go st_2 ?_
  clear st_2 Ex_2 A_2 EA_2 g_2 X0 e0
  show Win p.tables e below _ (T_2.setTop (mkF m 16 #[.val (.int (1 : Int32)), .val (.int p1), .val (.int p2), .val (.int p3), .val (.int p4)] [(.ref b_2)]))
  refine s_dup (pc' := 17) X_2.here hx (hb hby d1_16) rfl rfl ?_
  refine s_iconst (pc' := 18) (z := (0 : Int32)) X_2.here hx (hb hby d1_17) rfl rfl ?_
  refine s_iloadN (pc' := 19) X_2.here hx (hb hby d1_18) rfl rfl ?_
  obtain ⟨cl_3, Ar_3, q_3, S_3, N_3, H_3, G_3⟩ := V_b_2
  obtain ⟨T_3, h_3, X_3, e_3, W_3, st_3⟩ := stI X_2 hx hZ e_2 Ar_3 (j := (0 : Int32)) (inb_of S_3 ⟨by decide, by decide⟩) (g := (mkF m 19 #[.val (.int (1 : Int32)), .val (.int p1), .val (.int p2), .val (.int p3), .val (.int p4)] [(.int p1), (.int (0 : Int32)), (.ref b_2), (.ref b_2)])) rfl rfl (hb hby d1_19)
  have V_3 := Arv.set Ar_3 q_3 S_3 N_3 H_3 G_3 rfl W_3 0 rfl (Nat.le_of_ble_eq_true rfl)
  replace E_b_2 := E_b_2.wr W_3
  replace lt_b_2 := Nat.lt_of_lt_of_le lt_b_2 (Keep.of_wr W_3).1
  replace Zs := Nat.le_trans Zs (Keep.of_wr W_3).1
  replace Kp := Kp.wr W_3 (Or.inr sz_b_2)
  replace V_b_2 : Arv Z h_3 b_2 k_2 .int (1 : Int32) [(.int p1)] (.int (0 : Int32)) := V_3
  replace Nf := Fr.snoc X_3 Nf g_b_2
  refine Win.go st_3 ?_
  clear st_3 W_3 V_3 Ar_3 q_3 S_3 N_3 H_3 G_3 X_2 e_2
  show Win p.tables e below _ (T_3.setTop (mkF m 20 #[.val (.int (1 : Int32)), .val (.int p1), .val (.int p2), .val (.int p3), .val (.int p4)] [(.ref b_2)]))
  refine winA X_3 hx hlk e_3 Bd.returns rfl rfl (hb hby d1_20) (by decide) (by decide) ?_
  exact ⟨Nf, Kp, b_2, k_2, rfl, g_b_2, sz_b_2, V_b_2⟩
theorem d1_21 : decode method_3_code 21 = .ok (.iload_n 0, 1) := by decide +kernel
theorem d1_22 : decode method_3_code 22 = .ok (.iconst 2, 1) := by decide +kernel
theorem d1_23 : decode method_3_code 23 = .ok (.if_icmp .ne 15, 3) := by decide +kernel
theorem d1_26 : decode method_3_code 26 = .ok (.iconst 2, 1) := by decide +kernel
theorem d1_27 : decode method_3_code 27 = .ok (.newarray .int, 2) := by decide +kernel
theorem d1_29 : decode method_3_code 29 = .ok (.dup, 1) := by decide +kernel
theorem d1_30 : decode method_3_code 30 = .ok (.iconst 0, 1) := by decide +kernel
theorem d1_31 : decode method_3_code 31 = .ok (.iload_n 1, 1) := by decide +kernel
theorem d1_32 : decode method_3_code 32 = .ok (.iastore, 1) := by decide +kernel
theorem d1_33 : decode method_3_code 33 = .ok (.dup, 1) := by decide +kernel
theorem d1_34 : decode method_3_code 34 = .ok (.iconst 1, 1) := by decide +kernel
theorem d1_35 : decode method_3_code 35 = .ok (.iload_n 2, 1) := by decide +kernel
theorem d1_36 : decode method_3_code 36 = .ok (.iastore, 1) := by decide +kernel
theorem d1_37 : decode method_3_code 37 = .ok (.areturn, 1) := by decide +kernel
theorem ef_1_2 (m : MethodId) (p1 : Int32) (p2 : Int32) (p3 : Int32) (p4 : Int32) : entryFrame m #[(.int (2 : Int32)), (.int p1), (.int p2), (.int p3), (.int p4)] 5 = mkF m 0 #[.val (.int (2 : Int32)), .val (.int p1), .val (.int p2), .val (.int p3), .val (.int p4)] [] := by first | (simp [entryFrame, mkF, argsToLocals, Value.category]; done) | rfl
def Q1_2 (Z : State) (p1 : Int32) (p2 : Int32) (p3 : Int32) (p4 : Int32) (h0 : Heap) (n0 : Nat) (v : Option Value) (h : Heap) (L : List Loc) : Prop := Fr n0 L ∧ Keep h0 h [] ∧ (∃ (b : Addr) (kk : ClassId), v = some (.ref b) ∧ n0 ≤ b ∧ h0.size ≤ b ∧ Arv Z h b kk .int (2 : Int32) [(.int p1), (.int p2)] (.int (0 : Int32)))
set_option maxRecDepth 65536 in
set_option maxHeartbeats 40000000 in
theorem rm1_2 (l : Launch) (Z : State) (a0 : Array Value) (hw : ∀ d ∈ tables_1, d.before a0 Z = true) (ws : List Jvm.Cond) (p1 : Int32) (p2 : Int32) (p3 : Int32) (p4 : Int32) (h0 : Heap) (n0 : Nat) (Zs : n0 ≤ h0.size) :
    MetFree l (⟨"com/example/faithful_deputy/faithfuldeputy/BitsKeepOnlyPinLaw", "list", "(IIIII)[I"⟩ : MethodName) (head1 (Jvm.Cond.code (⟨"com/example/faithful_deputy/faithfuldeputy/BitsKeepOnlyPinLaw", "list", "(IIIII)[I"⟩ : MethodName) method_3_code 5 (some (.array .int)) :: ws) ({ frames := 0, cells := 1, slots := 2, locals := 0 } : Room)) (fun as' U => as' = #[(.int (2 : Int32)), (.int p1), (.int p2), (.int p3), (.int p4)] ∧ Z.Warmed39 U.vm ∧ U.heap = h0) (fun _ _ _ _ _ => True) (fun _ U o U' => ∃ v L, o = .returned v ∧ Q1_2 Z p1 p2 p3 p4 h0 n0 v U'.heap L ∧ FrameEnd U o U' L ({ frames := 0, cells := 1, slots := 2, locals := 0 } : Room).cells ({ frames := 0, cells := 1, slots := 2, locals := 0 } : Room).slots) := by
  refine MetFree.of_bodySF (plainFor_of_name pn_1) hisR ?_
  intro p e s m args below meth c s₁ Bd hml0 hP hK
  obtain ⟨rfl, hZ, hh⟩ := hP
  have hx := Bd.exec
  have hby := Bd.bytes
  have hml : c.maxLocals = 5 := hml0
  have hown : s.vm.findClass "com/example/faithful_deputy/faithfuldeputy/BitsKeepOnlyPinLaw" = some m.cls := findClass_of_methodNamed Bd.named
  have hnm := (name_of_methodNamed Bd.named Bd.method).1
  have hlk : meth.locks = false := Bd.notSynchronized
  have X0 : Stand p l e ({ frames := 0, cells := 1, slots := 2, locals := 0 } : Room) s m #[(.int (2 : Int32)), (.int p1), (.int p2), (.int p3), (.int p4)] below meth c s₁ [] 0 0 := Stand.of_body Bd
  have e0 : s₁.heap = h0 := by rw [← hh, Bd.state]; rfl
  have Nf := Fr.nil n0
  refine (?_ : Win p.tables e below (PostQ s (Q1_2 Z p1 p2 p3 p4 h0 n0) ({ frames := 0, cells := 1, slots := 2, locals := 0 } : Room).cells ({ frames := 0, cells := 1, slots := 2, locals := 0 } : Room).slots) (s₁.setTop (entryFrame m #[(.int (2 : Int32)), (.int p1), (.int p2), (.int p3), (.int p4)] 5)))
  rw [ef_1_2]
  have Kp : Keep h0 h0 [] := Keep.refl h0 _
  show Win p.tables e below _ (s₁.setTop (mkF m 0 #[.val (.int (2 : Int32)), .val (.int p1), .val (.int p2), .val (.int p3), .val (.int p4)] []))
  refine s_iloadN (pc' := 1) X0.here hx (hb hby d1_0) rfl rfl ?_
  refine s_ifYes (pc' := 8) X0.here hx (hb hby d1_1) ((if0 _ _).trans (feqI (x := (2 : Int32)) (y := (0 : Int32)) (by decide)).2) (by decide) (by decide) ?_
  refine s_iloadN (pc' := 9) X0.here hx (hb hby d1_8) rfl rfl ?_
  refine s_iconst (pc' := 10) (z := (1 : Int32)) X0.here hx (hb hby d1_9) rfl rfl ?_
  refine s_icmpYes (pc' := 21) X0.here hx (hb hby d1_10) (feqI (x := (2 : Int32)) (y := (1 : Int32)) (by decide)).2 (by decide) (by decide) ?_
  refine s_iloadN (pc' := 22) X0.here hx (hb hby d1_21) rfl rfl ?_
  refine s_iconst (pc' := 23) (z := (2 : Int32)) X0.here hx (hb hby d1_22) rfl rfl ?_
  refine s_icmpNo (pc' := 26) X0.here hx (hb hby d1_23) rfl (teqI (x := (2 : Int32)) (y := (2 : Int32)) (by decide)).2 ?_
  refine s_iconst (pc' := 27) (z := (2 : Int32)) X0.here hx (hb hby d1_26) rfl rfl ?_
  obtain ⟨T_4, h_4, k_4, X_4, e_4, Ex_4, A_4, EA_4, st_4⟩ := newPE X0 hx hZ (hw _ (List.mem_of_getElem? (i := 5) rfl)) e0 (g := (mkF m 27 #[.val (.int (2 : Int32)), .val (.int p1), .val (.int p2), .val (.int p3), .val (.int p4)] [(.int (2 : Int32))])) rfl (hb hby d1_27) rfl (by decide) (cap := 2) (by decide) (by decide) (by decide) (by decide) (ad := "[I") (by decide)
  obtain ⟨b_4, g_4⟩ : ∃ z, z = h0.size := ⟨_, rfl⟩
  have g_b_4 : n0 ≤ b_4 := Nat.le_trans Zs (Nat.le_of_eq g_4.symm)
  have sz_b_4 : h0.size ≤ b_4 := Nat.le_trans Kp.1 (Nat.le_of_eq g_4.symm)
  rw [← g_4] at A_4 EA_4 st_4
  replace Zs := Nat.le_trans Zs Ex_4.1
  replace Kp := Kp.ext Ex_4
  have V_b_4 : Arv Z h_4 b_4 k_4 .int (2 : Int32) [(.int (0 : Int32)), (.int (0 : Int32))] (.int (0 : Int32)) := (Arv.new A_4 (by decide)).pad (pad_rep [] (.int (0 : Int32)) 2)
  have lt_b_4 := V_b_4.lt
  have E_b_4 := EA_4
  refine Win.go st_4 ?_
  clear st_4 Ex_4 A_4 EA_4 g_4 X0 e0
  show Win p.tables e below _ (T_4.setTop (mkF m 29 #[.val (.int (2 : Int32)), .val (.int p1), .val (.int p2), .val (.int p3), .val (.int p4)] [(.ref b_4)]))
  refine s_dup (pc' := 30) X_4.here hx (hb hby d1_29) rfl rfl ?_
  refine s_iconst (pc' := 31) (z := (0 : Int32)) X_4.here hx (hb hby d1_30) rfl rfl ?_
  refine s_iloadN (pc' := 32) X_4.here hx (hb hby d1_31) rfl rfl ?_
  obtain ⟨cl_5, Ar_5, q_5, S_5, N_5, H_5, G_5⟩ := V_b_4
  obtain ⟨T_5, h_5, X_5, e_5, W_5, st_5⟩ := stI X_4 hx hZ e_4 Ar_5 (j := (0 : Int32)) (inb_of S_5 ⟨by decide, by decide⟩) (g := (mkF m 32 #[.val (.int (2 : Int32)), .val (.int p1), .val (.int p2), .val (.int p3), .val (.int p4)] [(.int p1), (.int (0 : Int32)), (.ref b_4), (.ref b_4)])) rfl rfl (hb hby d1_32)
  have V_5 := Arv.set Ar_5 q_5 S_5 N_5 H_5 G_5 rfl W_5 0 rfl (Nat.le_of_ble_eq_true rfl)
  replace E_b_4 := E_b_4.wr W_5
  replace lt_b_4 := Nat.lt_of_lt_of_le lt_b_4 (Keep.of_wr W_5).1
  replace Zs := Nat.le_trans Zs (Keep.of_wr W_5).1
  replace Kp := Kp.wr W_5 (Or.inr sz_b_4)
  replace V_b_4 : Arv Z h_5 b_4 k_4 .int (2 : Int32) [(.int p1), (.int (0 : Int32))] (.int (0 : Int32)) := V_5
  replace Nf := Fr.snoc X_5 Nf g_b_4
  refine Win.go st_5 ?_
  clear st_5 W_5 V_5 Ar_5 q_5 S_5 N_5 H_5 G_5 X_4 e_4
  show Win p.tables e below _ (T_5.setTop (mkF m 33 #[.val (.int (2 : Int32)), .val (.int p1), .val (.int p2), .val (.int p3), .val (.int p4)] [(.ref b_4)]))
  refine s_dup (pc' := 34) X_5.here hx (hb hby d1_33) rfl rfl ?_
  refine s_iconst (pc' := 35) (z := (1 : Int32)) X_5.here hx (hb hby d1_34) rfl rfl ?_
  refine s_iloadN (pc' := 36) X_5.here hx (hb hby d1_35) rfl rfl ?_
  obtain ⟨cl_6, Ar_6, q_6, S_6, N_6, H_6, G_6⟩ := V_b_4
  obtain ⟨T_6, h_6, X_6, e_6, W_6, st_6⟩ := stI X_5 hx hZ e_5 Ar_6 (j := (1 : Int32)) (inb_of S_6 ⟨by decide, by decide⟩) (g := (mkF m 36 #[.val (.int (2 : Int32)), .val (.int p1), .val (.int p2), .val (.int p3), .val (.int p4)] [(.int p2), (.int (1 : Int32)), (.ref b_4), (.ref b_4)])) rfl rfl (hb hby d1_36)
  have V_6 := Arv.set Ar_6 q_6 S_6 N_6 H_6 G_6 rfl W_6 1 rfl (Nat.le_of_ble_eq_true rfl)
  replace E_b_4 := E_b_4.wr W_6
  replace lt_b_4 := Nat.lt_of_lt_of_le lt_b_4 (Keep.of_wr W_6).1
  replace Zs := Nat.le_trans Zs (Keep.of_wr W_6).1
  replace Kp := Kp.wr W_6 (Or.inr sz_b_4)
  replace V_b_4 : Arv Z h_6 b_4 k_4 .int (2 : Int32) [(.int p1), (.int p2)] (.int (0 : Int32)) := V_6
  replace Nf := Fr.snoc X_6 Nf g_b_4
  refine Win.go st_6 ?_
  clear st_6 W_6 V_6 Ar_6 q_6 S_6 N_6 H_6 G_6 X_5 e_5
  show Win p.tables e below _ (T_6.setTop (mkF m 37 #[.val (.int (2 : Int32)), .val (.int p1), .val (.int p2), .val (.int p3), .val (.int p4)] [(.ref b_4)]))
  refine winA X_6 hx hlk e_6 Bd.returns rfl rfl (hb hby d1_37) (by decide) (by decide) ?_
  exact ⟨Nf, Kp, b_4, k_4, rfl, g_b_4, sz_b_4, V_b_4⟩
theorem d1_38 : decode method_3_code 38 = .ok (.iload_n 0, 1) := by decide +kernel
theorem d1_39 : decode method_3_code 39 = .ok (.iconst 3, 1) := by decide +kernel
theorem d1_40 : decode method_3_code 40 = .ok (.if_icmp .ne 19, 3) := by decide +kernel
theorem d1_43 : decode method_3_code 43 = .ok (.iconst 3, 1) := by decide +kernel
theorem d1_44 : decode method_3_code 44 = .ok (.newarray .int, 2) := by decide +kernel
theorem d1_46 : decode method_3_code 46 = .ok (.dup, 1) := by decide +kernel
theorem d1_47 : decode method_3_code 47 = .ok (.iconst 0, 1) := by decide +kernel
theorem d1_48 : decode method_3_code 48 = .ok (.iload_n 1, 1) := by decide +kernel
theorem d1_49 : decode method_3_code 49 = .ok (.iastore, 1) := by decide +kernel
theorem d1_50 : decode method_3_code 50 = .ok (.dup, 1) := by decide +kernel
theorem d1_51 : decode method_3_code 51 = .ok (.iconst 1, 1) := by decide +kernel
theorem d1_52 : decode method_3_code 52 = .ok (.iload_n 2, 1) := by decide +kernel
theorem d1_53 : decode method_3_code 53 = .ok (.iastore, 1) := by decide +kernel
theorem d1_54 : decode method_3_code 54 = .ok (.dup, 1) := by decide +kernel
theorem d1_55 : decode method_3_code 55 = .ok (.iconst 2, 1) := by decide +kernel
theorem d1_56 : decode method_3_code 56 = .ok (.iload_n 3, 1) := by decide +kernel
theorem d1_57 : decode method_3_code 57 = .ok (.iastore, 1) := by decide +kernel
theorem d1_58 : decode method_3_code 58 = .ok (.areturn, 1) := by decide +kernel
theorem ef_1_3 (m : MethodId) (p1 : Int32) (p2 : Int32) (p3 : Int32) (p4 : Int32) : entryFrame m #[(.int (3 : Int32)), (.int p1), (.int p2), (.int p3), (.int p4)] 5 = mkF m 0 #[.val (.int (3 : Int32)), .val (.int p1), .val (.int p2), .val (.int p3), .val (.int p4)] [] := by first | (simp [entryFrame, mkF, argsToLocals, Value.category]; done) | rfl
def Q1_3 (Z : State) (p1 : Int32) (p2 : Int32) (p3 : Int32) (p4 : Int32) (h0 : Heap) (n0 : Nat) (v : Option Value) (h : Heap) (L : List Loc) : Prop := Fr n0 L ∧ Keep h0 h [] ∧ (∃ (b : Addr) (kk : ClassId), v = some (.ref b) ∧ n0 ≤ b ∧ h0.size ≤ b ∧ Arv Z h b kk .int (3 : Int32) [(.int p1), (.int p2), (.int p3)] (.int (0 : Int32)))
set_option maxRecDepth 65536 in
set_option maxHeartbeats 40000000 in
theorem rm1_3 (l : Launch) (Z : State) (a0 : Array Value) (hw : ∀ d ∈ tables_1, d.before a0 Z = true) (ws : List Jvm.Cond) (p1 : Int32) (p2 : Int32) (p3 : Int32) (p4 : Int32) (h0 : Heap) (n0 : Nat) (Zs : n0 ≤ h0.size) :
    MetFree l (⟨"com/example/faithful_deputy/faithfuldeputy/BitsKeepOnlyPinLaw", "list", "(IIIII)[I"⟩ : MethodName) (head1 (Jvm.Cond.code (⟨"com/example/faithful_deputy/faithfuldeputy/BitsKeepOnlyPinLaw", "list", "(IIIII)[I"⟩ : MethodName) method_3_code 5 (some (.array .int)) :: ws) ({ frames := 0, cells := 1, slots := 3, locals := 0 } : Room)) (fun as' U => as' = #[(.int (3 : Int32)), (.int p1), (.int p2), (.int p3), (.int p4)] ∧ Z.Warmed39 U.vm ∧ U.heap = h0) (fun _ _ _ _ _ => True) (fun _ U o U' => ∃ v L, o = .returned v ∧ Q1_3 Z p1 p2 p3 p4 h0 n0 v U'.heap L ∧ FrameEnd U o U' L ({ frames := 0, cells := 1, slots := 3, locals := 0 } : Room).cells ({ frames := 0, cells := 1, slots := 3, locals := 0 } : Room).slots) := by
  refine MetFree.of_bodySF (plainFor_of_name pn_1) hisR ?_
  intro p e s m args below meth c s₁ Bd hml0 hP hK
  obtain ⟨rfl, hZ, hh⟩ := hP
  have hx := Bd.exec
  have hby := Bd.bytes
  have hml : c.maxLocals = 5 := hml0
  have hown : s.vm.findClass "com/example/faithful_deputy/faithfuldeputy/BitsKeepOnlyPinLaw" = some m.cls := findClass_of_methodNamed Bd.named
  have hnm := (name_of_methodNamed Bd.named Bd.method).1
  have hlk : meth.locks = false := Bd.notSynchronized
  have X0 : Stand p l e ({ frames := 0, cells := 1, slots := 3, locals := 0 } : Room) s m #[(.int (3 : Int32)), (.int p1), (.int p2), (.int p3), (.int p4)] below meth c s₁ [] 0 0 := Stand.of_body Bd
  have e0 : s₁.heap = h0 := by rw [← hh, Bd.state]; rfl
  have Nf := Fr.nil n0
  refine (?_ : Win p.tables e below (PostQ s (Q1_3 Z p1 p2 p3 p4 h0 n0) ({ frames := 0, cells := 1, slots := 3, locals := 0 } : Room).cells ({ frames := 0, cells := 1, slots := 3, locals := 0 } : Room).slots) (s₁.setTop (entryFrame m #[(.int (3 : Int32)), (.int p1), (.int p2), (.int p3), (.int p4)] 5)))
  rw [ef_1_3]
  have Kp : Keep h0 h0 [] := Keep.refl h0 _
  show Win p.tables e below _ (s₁.setTop (mkF m 0 #[.val (.int (3 : Int32)), .val (.int p1), .val (.int p2), .val (.int p3), .val (.int p4)] []))
  refine s_iloadN (pc' := 1) X0.here hx (hb hby d1_0) rfl rfl ?_
  refine s_ifYes (pc' := 8) X0.here hx (hb hby d1_1) ((if0 _ _).trans (feqI (x := (3 : Int32)) (y := (0 : Int32)) (by decide)).2) (by decide) (by decide) ?_
  refine s_iloadN (pc' := 9) X0.here hx (hb hby d1_8) rfl rfl ?_
  refine s_iconst (pc' := 10) (z := (1 : Int32)) X0.here hx (hb hby d1_9) rfl rfl ?_
  refine s_icmpYes (pc' := 21) X0.here hx (hb hby d1_10) (feqI (x := (3 : Int32)) (y := (1 : Int32)) (by decide)).2 (by decide) (by decide) ?_
  refine s_iloadN (pc' := 22) X0.here hx (hb hby d1_21) rfl rfl ?_
  refine s_iconst (pc' := 23) (z := (2 : Int32)) X0.here hx (hb hby d1_22) rfl rfl ?_
  refine s_icmpYes (pc' := 38) X0.here hx (hb hby d1_23) (feqI (x := (3 : Int32)) (y := (2 : Int32)) (by decide)).2 (by decide) (by decide) ?_
  refine s_iloadN (pc' := 39) X0.here hx (hb hby d1_38) rfl rfl ?_
  refine s_iconst (pc' := 40) (z := (3 : Int32)) X0.here hx (hb hby d1_39) rfl rfl ?_
  refine s_icmpNo (pc' := 43) X0.here hx (hb hby d1_40) rfl (teqI (x := (3 : Int32)) (y := (3 : Int32)) (by decide)).2 ?_
  refine s_iconst (pc' := 44) (z := (3 : Int32)) X0.here hx (hb hby d1_43) rfl rfl ?_
  obtain ⟨T_7, h_7, k_7, X_7, e_7, Ex_7, A_7, EA_7, st_7⟩ := newPE X0 hx hZ (hw _ (List.mem_of_getElem? (i := 5) rfl)) e0 (g := (mkF m 44 #[.val (.int (3 : Int32)), .val (.int p1), .val (.int p2), .val (.int p3), .val (.int p4)] [(.int (3 : Int32))])) rfl (hb hby d1_44) rfl (by decide) (cap := 3) (by decide) (by decide) (by decide) (by decide) (ad := "[I") (by decide)
  obtain ⟨b_7, g_7⟩ : ∃ z, z = h0.size := ⟨_, rfl⟩
  have g_b_7 : n0 ≤ b_7 := Nat.le_trans Zs (Nat.le_of_eq g_7.symm)
  have sz_b_7 : h0.size ≤ b_7 := Nat.le_trans Kp.1 (Nat.le_of_eq g_7.symm)
  rw [← g_7] at A_7 EA_7 st_7
  replace Zs := Nat.le_trans Zs Ex_7.1
  replace Kp := Kp.ext Ex_7
  have V_b_7 : Arv Z h_7 b_7 k_7 .int (3 : Int32) [(.int (0 : Int32)), (.int (0 : Int32)), (.int (0 : Int32))] (.int (0 : Int32)) := (Arv.new A_7 (by decide)).pad (pad_rep [] (.int (0 : Int32)) 3)
  have lt_b_7 := V_b_7.lt
  have E_b_7 := EA_7
  refine Win.go st_7 ?_
  clear st_7 Ex_7 A_7 EA_7 g_7 X0 e0
  show Win p.tables e below _ (T_7.setTop (mkF m 46 #[.val (.int (3 : Int32)), .val (.int p1), .val (.int p2), .val (.int p3), .val (.int p4)] [(.ref b_7)]))
  refine s_dup (pc' := 47) X_7.here hx (hb hby d1_46) rfl rfl ?_
  refine s_iconst (pc' := 48) (z := (0 : Int32)) X_7.here hx (hb hby d1_47) rfl rfl ?_
  refine s_iloadN (pc' := 49) X_7.here hx (hb hby d1_48) rfl rfl ?_
  obtain ⟨cl_8, Ar_8, q_8, S_8, N_8, H_8, G_8⟩ := V_b_7
  obtain ⟨T_8, h_8, X_8, e_8, W_8, st_8⟩ := stI X_7 hx hZ e_7 Ar_8 (j := (0 : Int32)) (inb_of S_8 ⟨by decide, by decide⟩) (g := (mkF m 49 #[.val (.int (3 : Int32)), .val (.int p1), .val (.int p2), .val (.int p3), .val (.int p4)] [(.int p1), (.int (0 : Int32)), (.ref b_7), (.ref b_7)])) rfl rfl (hb hby d1_49)
  have V_8 := Arv.set Ar_8 q_8 S_8 N_8 H_8 G_8 rfl W_8 0 rfl (Nat.le_of_ble_eq_true rfl)
  replace E_b_7 := E_b_7.wr W_8
  replace lt_b_7 := Nat.lt_of_lt_of_le lt_b_7 (Keep.of_wr W_8).1
  replace Zs := Nat.le_trans Zs (Keep.of_wr W_8).1
  replace Kp := Kp.wr W_8 (Or.inr sz_b_7)
  replace V_b_7 : Arv Z h_8 b_7 k_7 .int (3 : Int32) [(.int p1), (.int (0 : Int32)), (.int (0 : Int32))] (.int (0 : Int32)) := V_8
  replace Nf := Fr.snoc X_8 Nf g_b_7
  refine Win.go st_8 ?_
  clear st_8 W_8 V_8 Ar_8 q_8 S_8 N_8 H_8 G_8 X_7 e_7
  show Win p.tables e below _ (T_8.setTop (mkF m 50 #[.val (.int (3 : Int32)), .val (.int p1), .val (.int p2), .val (.int p3), .val (.int p4)] [(.ref b_7)]))
  refine s_dup (pc' := 51) X_8.here hx (hb hby d1_50) rfl rfl ?_
  refine s_iconst (pc' := 52) (z := (1 : Int32)) X_8.here hx (hb hby d1_51) rfl rfl ?_
  refine s_iloadN (pc' := 53) X_8.here hx (hb hby d1_52) rfl rfl ?_
  obtain ⟨cl_9, Ar_9, q_9, S_9, N_9, H_9, G_9⟩ := V_b_7
  obtain ⟨T_9, h_9, X_9, e_9, W_9, st_9⟩ := stI X_8 hx hZ e_8 Ar_9 (j := (1 : Int32)) (inb_of S_9 ⟨by decide, by decide⟩) (g := (mkF m 53 #[.val (.int (3 : Int32)), .val (.int p1), .val (.int p2), .val (.int p3), .val (.int p4)] [(.int p2), (.int (1 : Int32)), (.ref b_7), (.ref b_7)])) rfl rfl (hb hby d1_53)
  have V_9 := Arv.set Ar_9 q_9 S_9 N_9 H_9 G_9 rfl W_9 1 rfl (Nat.le_of_ble_eq_true rfl)
  replace E_b_7 := E_b_7.wr W_9
  replace lt_b_7 := Nat.lt_of_lt_of_le lt_b_7 (Keep.of_wr W_9).1
  replace Zs := Nat.le_trans Zs (Keep.of_wr W_9).1
  replace Kp := Kp.wr W_9 (Or.inr sz_b_7)
  replace V_b_7 : Arv Z h_9 b_7 k_7 .int (3 : Int32) [(.int p1), (.int p2), (.int (0 : Int32))] (.int (0 : Int32)) := V_9
  replace Nf := Fr.snoc X_9 Nf g_b_7
  refine Win.go st_9 ?_
  clear st_9 W_9 V_9 Ar_9 q_9 S_9 N_9 H_9 G_9 X_8 e_8
  show Win p.tables e below _ (T_9.setTop (mkF m 54 #[.val (.int (3 : Int32)), .val (.int p1), .val (.int p2), .val (.int p3), .val (.int p4)] [(.ref b_7)]))
  refine s_dup (pc' := 55) X_9.here hx (hb hby d1_54) rfl rfl ?_
  refine s_iconst (pc' := 56) (z := (2 : Int32)) X_9.here hx (hb hby d1_55) rfl rfl ?_
  refine s_iloadN (pc' := 57) X_9.here hx (hb hby d1_56) rfl rfl ?_
  obtain ⟨cl_10, Ar_10, q_10, S_10, N_10, H_10, G_10⟩ := V_b_7
  obtain ⟨T_10, h_10, X_10, e_10, W_10, st_10⟩ := stI X_9 hx hZ e_9 Ar_10 (j := (2 : Int32)) (inb_of S_10 ⟨by decide, by decide⟩) (g := (mkF m 57 #[.val (.int (3 : Int32)), .val (.int p1), .val (.int p2), .val (.int p3), .val (.int p4)] [(.int p3), (.int (2 : Int32)), (.ref b_7), (.ref b_7)])) rfl rfl (hb hby d1_57)
  have V_10 := Arv.set Ar_10 q_10 S_10 N_10 H_10 G_10 rfl W_10 2 rfl (Nat.le_of_ble_eq_true rfl)
  replace E_b_7 := E_b_7.wr W_10
  replace lt_b_7 := Nat.lt_of_lt_of_le lt_b_7 (Keep.of_wr W_10).1
  replace Zs := Nat.le_trans Zs (Keep.of_wr W_10).1
  replace Kp := Kp.wr W_10 (Or.inr sz_b_7)
  replace V_b_7 : Arv Z h_10 b_7 k_7 .int (3 : Int32) [(.int p1), (.int p2), (.int p3)] (.int (0 : Int32)) := V_10
  replace Nf := Fr.snoc X_10 Nf g_b_7
  refine Win.go st_10 ?_
  clear st_10 W_10 V_10 Ar_10 q_10 S_10 N_10 H_10 G_10 X_9 e_9
  show Win p.tables e below _ (T_10.setTop (mkF m 58 #[.val (.int (3 : Int32)), .val (.int p1), .val (.int p2), .val (.int p3), .val (.int p4)] [(.ref b_7)]))
  refine winA X_10 hx hlk e_10 Bd.returns rfl rfl (hb hby d1_58) (by decide) (by decide) ?_
  exact ⟨Nf, Kp, b_7, k_7, rfl, g_b_7, sz_b_7, V_b_7⟩
theorem d1_59 : decode method_3_code 59 = .ok (.iconst 4, 1) := by decide +kernel
theorem d1_60 : decode method_3_code 60 = .ok (.newarray .int, 2) := by decide +kernel
theorem d1_62 : decode method_3_code 62 = .ok (.dup, 1) := by decide +kernel
theorem d1_63 : decode method_3_code 63 = .ok (.iconst 0, 1) := by decide +kernel
theorem d1_64 : decode method_3_code 64 = .ok (.iload_n 1, 1) := by decide +kernel
theorem d1_65 : decode method_3_code 65 = .ok (.iastore, 1) := by decide +kernel
theorem d1_66 : decode method_3_code 66 = .ok (.dup, 1) := by decide +kernel
theorem d1_67 : decode method_3_code 67 = .ok (.iconst 1, 1) := by decide +kernel
theorem d1_68 : decode method_3_code 68 = .ok (.iload_n 2, 1) := by decide +kernel
theorem d1_69 : decode method_3_code 69 = .ok (.iastore, 1) := by decide +kernel
theorem d1_70 : decode method_3_code 70 = .ok (.dup, 1) := by decide +kernel
theorem d1_71 : decode method_3_code 71 = .ok (.iconst 2, 1) := by decide +kernel
theorem d1_72 : decode method_3_code 72 = .ok (.iload_n 3, 1) := by decide +kernel
theorem d1_73 : decode method_3_code 73 = .ok (.iastore, 1) := by decide +kernel
theorem d1_74 : decode method_3_code 74 = .ok (.dup, 1) := by decide +kernel
theorem d1_75 : decode method_3_code 75 = .ok (.iconst 3, 1) := by decide +kernel
theorem d1_76 : decode method_3_code 76 = .ok (.iload 4, 2) := by decide +kernel
theorem d1_78 : decode method_3_code 78 = .ok (.iastore, 1) := by decide +kernel
theorem d1_79 : decode method_3_code 79 = .ok (.areturn, 1) := by decide +kernel
theorem ef_1_4 (m : MethodId) (p1 : Int32) (p2 : Int32) (p3 : Int32) (p4 : Int32) : entryFrame m #[(.int (4 : Int32)), (.int p1), (.int p2), (.int p3), (.int p4)] 5 = mkF m 0 #[.val (.int (4 : Int32)), .val (.int p1), .val (.int p2), .val (.int p3), .val (.int p4)] [] := by first | (simp [entryFrame, mkF, argsToLocals, Value.category]; done) | rfl
def Q1_4 (Z : State) (p1 : Int32) (p2 : Int32) (p3 : Int32) (p4 : Int32) (h0 : Heap) (n0 : Nat) (v : Option Value) (h : Heap) (L : List Loc) : Prop := Fr n0 L ∧ Keep h0 h [] ∧ (∃ (b : Addr) (kk : ClassId), v = some (.ref b) ∧ n0 ≤ b ∧ h0.size ≤ b ∧ Arv Z h b kk .int (4 : Int32) [(.int p1), (.int p2), (.int p3), (.int p4)] (.int (0 : Int32)))
set_option maxRecDepth 65536 in
set_option maxHeartbeats 40000000 in
theorem rm1_4 (l : Launch) (Z : State) (a0 : Array Value) (hw : ∀ d ∈ tables_1, d.before a0 Z = true) (ws : List Jvm.Cond) (p1 : Int32) (p2 : Int32) (p3 : Int32) (p4 : Int32) (h0 : Heap) (n0 : Nat) (Zs : n0 ≤ h0.size) :
    MetFree l (⟨"com/example/faithful_deputy/faithfuldeputy/BitsKeepOnlyPinLaw", "list", "(IIIII)[I"⟩ : MethodName) (head1 (Jvm.Cond.code (⟨"com/example/faithful_deputy/faithfuldeputy/BitsKeepOnlyPinLaw", "list", "(IIIII)[I"⟩ : MethodName) method_3_code 5 (some (.array .int)) :: ws) ({ frames := 0, cells := 1, slots := 4, locals := 0 } : Room)) (fun as' U => as' = #[(.int (4 : Int32)), (.int p1), (.int p2), (.int p3), (.int p4)] ∧ Z.Warmed39 U.vm ∧ U.heap = h0) (fun _ _ _ _ _ => True) (fun _ U o U' => ∃ v L, o = .returned v ∧ Q1_4 Z p1 p2 p3 p4 h0 n0 v U'.heap L ∧ FrameEnd U o U' L ({ frames := 0, cells := 1, slots := 4, locals := 0 } : Room).cells ({ frames := 0, cells := 1, slots := 4, locals := 0 } : Room).slots) := by
  refine MetFree.of_bodySF (plainFor_of_name pn_1) hisR ?_
  intro p e s m args below meth c s₁ Bd hml0 hP hK
  obtain ⟨rfl, hZ, hh⟩ := hP
  have hx := Bd.exec
  have hby := Bd.bytes
  have hml : c.maxLocals = 5 := hml0
  have hown : s.vm.findClass "com/example/faithful_deputy/faithfuldeputy/BitsKeepOnlyPinLaw" = some m.cls := findClass_of_methodNamed Bd.named
  have hnm := (name_of_methodNamed Bd.named Bd.method).1
  have hlk : meth.locks = false := Bd.notSynchronized
  have X0 : Stand p l e ({ frames := 0, cells := 1, slots := 4, locals := 0 } : Room) s m #[(.int (4 : Int32)), (.int p1), (.int p2), (.int p3), (.int p4)] below meth c s₁ [] 0 0 := Stand.of_body Bd
  have e0 : s₁.heap = h0 := by rw [← hh, Bd.state]; rfl
  have Nf := Fr.nil n0
  refine (?_ : Win p.tables e below (PostQ s (Q1_4 Z p1 p2 p3 p4 h0 n0) ({ frames := 0, cells := 1, slots := 4, locals := 0 } : Room).cells ({ frames := 0, cells := 1, slots := 4, locals := 0 } : Room).slots) (s₁.setTop (entryFrame m #[(.int (4 : Int32)), (.int p1), (.int p2), (.int p3), (.int p4)] 5)))
  rw [ef_1_4]
  have Kp : Keep h0 h0 [] := Keep.refl h0 _
  show Win p.tables e below _ (s₁.setTop (mkF m 0 #[.val (.int (4 : Int32)), .val (.int p1), .val (.int p2), .val (.int p3), .val (.int p4)] []))
  refine s_iloadN (pc' := 1) X0.here hx (hb hby d1_0) rfl rfl ?_
  refine s_ifYes (pc' := 8) X0.here hx (hb hby d1_1) ((if0 _ _).trans (feqI (x := (4 : Int32)) (y := (0 : Int32)) (by decide)).2) (by decide) (by decide) ?_
  refine s_iloadN (pc' := 9) X0.here hx (hb hby d1_8) rfl rfl ?_
  refine s_iconst (pc' := 10) (z := (1 : Int32)) X0.here hx (hb hby d1_9) rfl rfl ?_
  refine s_icmpYes (pc' := 21) X0.here hx (hb hby d1_10) (feqI (x := (4 : Int32)) (y := (1 : Int32)) (by decide)).2 (by decide) (by decide) ?_
  refine s_iloadN (pc' := 22) X0.here hx (hb hby d1_21) rfl rfl ?_
  refine s_iconst (pc' := 23) (z := (2 : Int32)) X0.here hx (hb hby d1_22) rfl rfl ?_
  refine s_icmpYes (pc' := 38) X0.here hx (hb hby d1_23) (feqI (x := (4 : Int32)) (y := (2 : Int32)) (by decide)).2 (by decide) (by decide) ?_
  refine s_iloadN (pc' := 39) X0.here hx (hb hby d1_38) rfl rfl ?_
  refine s_iconst (pc' := 40) (z := (3 : Int32)) X0.here hx (hb hby d1_39) rfl rfl ?_
  refine s_icmpYes (pc' := 59) X0.here hx (hb hby d1_40) (feqI (x := (4 : Int32)) (y := (3 : Int32)) (by decide)).2 (by decide) (by decide) ?_
  refine s_iconst (pc' := 60) (z := (4 : Int32)) X0.here hx (hb hby d1_59) rfl rfl ?_
  obtain ⟨T_11, h_11, k_11, X_11, e_11, Ex_11, A_11, EA_11, st_11⟩ := newPE X0 hx hZ (hw _ (List.mem_of_getElem? (i := 5) rfl)) e0 (g := (mkF m 60 #[.val (.int (4 : Int32)), .val (.int p1), .val (.int p2), .val (.int p3), .val (.int p4)] [(.int (4 : Int32))])) rfl (hb hby d1_60) rfl (by decide) (cap := 4) (by decide) (by decide) (by decide) (by decide) (ad := "[I") (by decide)
  obtain ⟨b_11, g_11⟩ : ∃ z, z = h0.size := ⟨_, rfl⟩
  have g_b_11 : n0 ≤ b_11 := Nat.le_trans Zs (Nat.le_of_eq g_11.symm)
  have sz_b_11 : h0.size ≤ b_11 := Nat.le_trans Kp.1 (Nat.le_of_eq g_11.symm)
  rw [← g_11] at A_11 EA_11 st_11
  replace Zs := Nat.le_trans Zs Ex_11.1
  replace Kp := Kp.ext Ex_11
  have V_b_11 : Arv Z h_11 b_11 k_11 .int (4 : Int32) [(.int (0 : Int32)), (.int (0 : Int32)), (.int (0 : Int32)), (.int (0 : Int32))] (.int (0 : Int32)) := (Arv.new A_11 (by decide)).pad (pad_rep [] (.int (0 : Int32)) 4)
  have lt_b_11 := V_b_11.lt
  have E_b_11 := EA_11
  refine Win.go st_11 ?_
  clear st_11 Ex_11 A_11 EA_11 g_11 X0 e0
  show Win p.tables e below _ (T_11.setTop (mkF m 62 #[.val (.int (4 : Int32)), .val (.int p1), .val (.int p2), .val (.int p3), .val (.int p4)] [(.ref b_11)]))
  refine s_dup (pc' := 63) X_11.here hx (hb hby d1_62) rfl rfl ?_
  refine s_iconst (pc' := 64) (z := (0 : Int32)) X_11.here hx (hb hby d1_63) rfl rfl ?_
  refine s_iloadN (pc' := 65) X_11.here hx (hb hby d1_64) rfl rfl ?_
  obtain ⟨cl_12, Ar_12, q_12, S_12, N_12, H_12, G_12⟩ := V_b_11
  obtain ⟨T_12, h_12, X_12, e_12, W_12, st_12⟩ := stI X_11 hx hZ e_11 Ar_12 (j := (0 : Int32)) (inb_of S_12 ⟨by decide, by decide⟩) (g := (mkF m 65 #[.val (.int (4 : Int32)), .val (.int p1), .val (.int p2), .val (.int p3), .val (.int p4)] [(.int p1), (.int (0 : Int32)), (.ref b_11), (.ref b_11)])) rfl rfl (hb hby d1_65)
  have V_12 := Arv.set Ar_12 q_12 S_12 N_12 H_12 G_12 rfl W_12 0 rfl (Nat.le_of_ble_eq_true rfl)
  replace E_b_11 := E_b_11.wr W_12
  replace lt_b_11 := Nat.lt_of_lt_of_le lt_b_11 (Keep.of_wr W_12).1
  replace Zs := Nat.le_trans Zs (Keep.of_wr W_12).1
  replace Kp := Kp.wr W_12 (Or.inr sz_b_11)
  replace V_b_11 : Arv Z h_12 b_11 k_11 .int (4 : Int32) [(.int p1), (.int (0 : Int32)), (.int (0 : Int32)), (.int (0 : Int32))] (.int (0 : Int32)) := V_12
  replace Nf := Fr.snoc X_12 Nf g_b_11
  refine Win.go st_12 ?_
  clear st_12 W_12 V_12 Ar_12 q_12 S_12 N_12 H_12 G_12 X_11 e_11
  show Win p.tables e below _ (T_12.setTop (mkF m 66 #[.val (.int (4 : Int32)), .val (.int p1), .val (.int p2), .val (.int p3), .val (.int p4)] [(.ref b_11)]))
  refine s_dup (pc' := 67) X_12.here hx (hb hby d1_66) rfl rfl ?_
  refine s_iconst (pc' := 68) (z := (1 : Int32)) X_12.here hx (hb hby d1_67) rfl rfl ?_
  refine s_iloadN (pc' := 69) X_12.here hx (hb hby d1_68) rfl rfl ?_
  obtain ⟨cl_13, Ar_13, q_13, S_13, N_13, H_13, G_13⟩ := V_b_11
  obtain ⟨T_13, h_13, X_13, e_13, W_13, st_13⟩ := stI X_12 hx hZ e_12 Ar_13 (j := (1 : Int32)) (inb_of S_13 ⟨by decide, by decide⟩) (g := (mkF m 69 #[.val (.int (4 : Int32)), .val (.int p1), .val (.int p2), .val (.int p3), .val (.int p4)] [(.int p2), (.int (1 : Int32)), (.ref b_11), (.ref b_11)])) rfl rfl (hb hby d1_69)
  have V_13 := Arv.set Ar_13 q_13 S_13 N_13 H_13 G_13 rfl W_13 1 rfl (Nat.le_of_ble_eq_true rfl)
  replace E_b_11 := E_b_11.wr W_13
  replace lt_b_11 := Nat.lt_of_lt_of_le lt_b_11 (Keep.of_wr W_13).1
  replace Zs := Nat.le_trans Zs (Keep.of_wr W_13).1
  replace Kp := Kp.wr W_13 (Or.inr sz_b_11)
  replace V_b_11 : Arv Z h_13 b_11 k_11 .int (4 : Int32) [(.int p1), (.int p2), (.int (0 : Int32)), (.int (0 : Int32))] (.int (0 : Int32)) := V_13
  replace Nf := Fr.snoc X_13 Nf g_b_11
  refine Win.go st_13 ?_
  clear st_13 W_13 V_13 Ar_13 q_13 S_13 N_13 H_13 G_13 X_12 e_12
  show Win p.tables e below _ (T_13.setTop (mkF m 70 #[.val (.int (4 : Int32)), .val (.int p1), .val (.int p2), .val (.int p3), .val (.int p4)] [(.ref b_11)]))
  refine s_dup (pc' := 71) X_13.here hx (hb hby d1_70) rfl rfl ?_
  refine s_iconst (pc' := 72) (z := (2 : Int32)) X_13.here hx (hb hby d1_71) rfl rfl ?_
  refine s_iloadN (pc' := 73) X_13.here hx (hb hby d1_72) rfl rfl ?_
  obtain ⟨cl_14, Ar_14, q_14, S_14, N_14, H_14, G_14⟩ := V_b_11
  obtain ⟨T_14, h_14, X_14, e_14, W_14, st_14⟩ := stI X_13 hx hZ e_13 Ar_14 (j := (2 : Int32)) (inb_of S_14 ⟨by decide, by decide⟩) (g := (mkF m 73 #[.val (.int (4 : Int32)), .val (.int p1), .val (.int p2), .val (.int p3), .val (.int p4)] [(.int p3), (.int (2 : Int32)), (.ref b_11), (.ref b_11)])) rfl rfl (hb hby d1_73)
  have V_14 := Arv.set Ar_14 q_14 S_14 N_14 H_14 G_14 rfl W_14 2 rfl (Nat.le_of_ble_eq_true rfl)
  replace E_b_11 := E_b_11.wr W_14
  replace lt_b_11 := Nat.lt_of_lt_of_le lt_b_11 (Keep.of_wr W_14).1
  replace Zs := Nat.le_trans Zs (Keep.of_wr W_14).1
  replace Kp := Kp.wr W_14 (Or.inr sz_b_11)
  replace V_b_11 : Arv Z h_14 b_11 k_11 .int (4 : Int32) [(.int p1), (.int p2), (.int p3), (.int (0 : Int32))] (.int (0 : Int32)) := V_14
  replace Nf := Fr.snoc X_14 Nf g_b_11
  refine Win.go st_14 ?_
  clear st_14 W_14 V_14 Ar_14 q_14 S_14 N_14 H_14 G_14 X_13 e_13
  show Win p.tables e below _ (T_14.setTop (mkF m 74 #[.val (.int (4 : Int32)), .val (.int p1), .val (.int p2), .val (.int p3), .val (.int p4)] [(.ref b_11)]))
  refine s_dup (pc' := 75) X_14.here hx (hb hby d1_74) rfl rfl ?_
  refine s_iconst (pc' := 76) (z := (3 : Int32)) X_14.here hx (hb hby d1_75) rfl rfl ?_
  refine s_iload (pc' := 78) X_14.here hx (hb hby d1_76) rfl rfl ?_
  obtain ⟨cl_15, Ar_15, q_15, S_15, N_15, H_15, G_15⟩ := V_b_11
  obtain ⟨T_15, h_15, X_15, e_15, W_15, st_15⟩ := stI X_14 hx hZ e_14 Ar_15 (j := (3 : Int32)) (inb_of S_15 ⟨by decide, by decide⟩) (g := (mkF m 78 #[.val (.int (4 : Int32)), .val (.int p1), .val (.int p2), .val (.int p3), .val (.int p4)] [(.int p4), (.int (3 : Int32)), (.ref b_11), (.ref b_11)])) rfl rfl (hb hby d1_78)
  have V_15 := Arv.set Ar_15 q_15 S_15 N_15 H_15 G_15 rfl W_15 3 rfl (Nat.le_of_ble_eq_true rfl)
  replace E_b_11 := E_b_11.wr W_15
  replace lt_b_11 := Nat.lt_of_lt_of_le lt_b_11 (Keep.of_wr W_15).1
  replace Zs := Nat.le_trans Zs (Keep.of_wr W_15).1
  replace Kp := Kp.wr W_15 (Or.inr sz_b_11)
  replace V_b_11 : Arv Z h_15 b_11 k_11 .int (4 : Int32) [(.int p1), (.int p2), (.int p3), (.int p4)] (.int (0 : Int32)) := V_15
  replace Nf := Fr.snoc X_15 Nf g_b_11
  refine Win.go st_15 ?_
  clear st_15 W_15 V_15 Ar_15 q_15 S_15 N_15 H_15 G_15 X_14 e_14
  show Win p.tables e below _ (T_15.setTop (mkF m 79 #[.val (.int (4 : Int32)), .val (.int p1), .val (.int p2), .val (.int p3), .val (.int p4)] [(.ref b_11)]))
  refine winA X_15 hx hlk e_15 Bd.returns rfl rfl (hb hby d1_79) (by decide) (by decide) ?_
  exact ⟨Nf, Kp, b_11, k_11, rfl, g_b_11, sz_b_11, V_b_11⟩
theorem d2_0 : decode method_2_code 0 = .ok (.iload_n 2, 1) := by decide +kernel
theorem d2_1 : decode method_2_code 1 = .ok (.ifCond .ne 5, 3) := by decide +kernel
theorem d2_4 : decode method_2_code 4 = .ok (.lconst 0, 1) := by decide +kernel
theorem d2_5 : decode method_2_code 5 = .ok (.lreturn, 1) := by decide +kernel
theorem ef_2_0_0 (m : MethodId) (p0 : Int32) : entryFrame m #[(.int p0), (.int (0 : Int32)), (.int (0 : Int32))] 3 = mkF m 0 #[.val (.int p0), .val (.int (0 : Int32)), .val (.int (0 : Int32))] [] := by first | (simp [entryFrame, mkF, argsToLocals, Value.category]; done) | rfl
def Q2_0_0 (Z : State) (p0 : Int32) (h0 : Heap) (n0 : Nat) (v : Option Value) (h : Heap) (L : List Loc) : Prop := Fr n0 L ∧ h = h0 ∧ v = some (.long (0 : Int64))
set_option maxRecDepth 65536 in
set_option maxHeartbeats 40000000 in
theorem rm2_0_0 (l : Launch) (Z : State) (a0 : Array Value) (hw : ∀ d ∈ tables_1, d.before a0 Z = true) (ws : List Jvm.Cond) (p0 : Int32) (h0 : Heap) (n0 : Nat) (Zs : n0 ≤ h0.size) :
    MetFree l (⟨"com/example/faithful_deputy/faithfuldeputy/BitsKeepOnlyPinLaw", "bitIn", "(IIZ)J"⟩ : MethodName) (head1 (Jvm.Cond.code (⟨"com/example/faithful_deputy/faithfuldeputy/BitsKeepOnlyPinLaw", "bitIn", "(IIZ)J"⟩ : MethodName) method_2_code 3 (some .long) :: ws) ({ frames := 0, cells := 0, slots := 0, locals := 0 } : Room)) (fun as' U => as' = #[(.int p0), (.int (0 : Int32)), (.int (0 : Int32))] ∧ Z.Warmed39 U.vm ∧ U.heap = h0) (fun _ _ _ _ _ => True) (fun _ U o U' => ∃ v L, o = .returned v ∧ Q2_0_0 Z p0 h0 n0 v U'.heap L ∧ FrameEnd U o U' L ({ frames := 0, cells := 0, slots := 0, locals := 0 } : Room).cells ({ frames := 0, cells := 0, slots := 0, locals := 0 } : Room).slots) := by
  refine MetFree.of_bodySF (plainFor_of_name pn_1) hisR ?_
  intro p e s m args below meth c s₁ Bd hml0 hP hK
  obtain ⟨rfl, hZ, hh⟩ := hP
  have hx := Bd.exec
  have hby := Bd.bytes
  have hml : c.maxLocals = 3 := hml0
  have hown : s.vm.findClass "com/example/faithful_deputy/faithfuldeputy/BitsKeepOnlyPinLaw" = some m.cls := findClass_of_methodNamed Bd.named
  have hnm := (name_of_methodNamed Bd.named Bd.method).1
  have hlk : meth.locks = false := Bd.notSynchronized
  have X0 : Stand p l e ({ frames := 0, cells := 0, slots := 0, locals := 0 } : Room) s m #[(.int p0), (.int (0 : Int32)), (.int (0 : Int32))] below meth c s₁ [] 0 0 := Stand.of_body Bd
  have e0 : s₁.heap = h0 := by rw [← hh, Bd.state]; rfl
  have Nf := Fr.nil n0
  refine (?_ : Win p.tables e below (PostQ s (Q2_0_0 Z p0 h0 n0) ({ frames := 0, cells := 0, slots := 0, locals := 0 } : Room).cells ({ frames := 0, cells := 0, slots := 0, locals := 0 } : Room).slots) (s₁.setTop (entryFrame m #[(.int p0), (.int (0 : Int32)), (.int (0 : Int32))] 3)))
  rw [ef_2_0_0]
  show Win p.tables e below _ (s₁.setTop (mkF m 0 #[.val (.int p0), .val (.int (0 : Int32)), .val (.int (0 : Int32))] []))
  refine s_iloadN (pc' := 1) X0.here hx (hb hby d2_0) rfl rfl ?_
  refine s_ifNo (pc' := 4) X0.here hx (hb hby d2_1) rfl ((if0 _ _).trans (teqI (x := (0 : Int32)) (y := (0 : Int32)) (by decide)).2) ?_
  refine s_lconst (pc' := 5) (z := (0 : Int64)) X0.here hx (hb hby d2_4) rfl rfl ?_
  refine winL X0 hx hlk e0 Bd.returns (hb hby d2_5) (by decide) (by decide) ?_
  exact ⟨Nf, rfl, rfl⟩
theorem d2_6 : decode method_2_code 6 = .ok (.iload_n 0, 1) := by decide +kernel
theorem d2_7 : decode method_2_code 7 = .ok (.bipush 64, 2) := by decide +kernel
theorem d2_9 : decode method_2_code 9 = .ok (.idiv, 1) := by decide +kernel
theorem d2_10 : decode method_2_code 10 = .ok (.iload_n 1, 1) := by decide +kernel
theorem d2_11 : decode method_2_code 11 = .ok (.if_icmp .eq 5, 3) := by decide +kernel
theorem d2_14 : decode method_2_code 14 = .ok (.lconst 0, 1) := by decide +kernel
theorem d2_15 : decode method_2_code 15 = .ok (.lreturn, 1) := by decide +kernel
theorem d2_16 : decode method_2_code 16 = .ok (.lconst 1, 1) := by decide +kernel
theorem d2_17 : decode method_2_code 17 = .ok (.iload_n 0, 1) := by decide +kernel
theorem d2_18 : decode method_2_code 18 = .ok (.bipush 64, 2) := by decide +kernel
theorem d2_20 : decode method_2_code 20 = .ok (.iload_n 1, 1) := by decide +kernel
theorem d2_21 : decode method_2_code 21 = .ok (.imul, 1) := by decide +kernel
theorem d2_22 : decode method_2_code 22 = .ok (.isub, 1) := by decide +kernel
theorem d2_23 : decode method_2_code 23 = .ok (.lshl, 1) := by decide +kernel
theorem d2_24 : decode method_2_code 24 = .ok (.lreturn, 1) := by decide +kernel
theorem ef_2_0_1 (m : MethodId) (p0 : Int32) : entryFrame m #[(.int p0), (.int (0 : Int32)), (.int (1 : Int32))] 3 = mkF m 0 #[.val (.int p0), .val (.int (0 : Int32)), .val (.int (1 : Int32))] [] := by first | (simp [entryFrame, mkF, argsToLocals, Value.category]; done) | rfl
def Q2_0_1 (Z : State) (p0 : Int32) (h0 : Heap) (n0 : Nat) (v : Option Value) (h : Heap) (L : List Loc) : Prop := Fr n0 L ∧ h = h0 ∧ (∃ z : Int64, v = some (.long z) ∧ (z = bit0 p0))
set_option maxRecDepth 65536 in
set_option maxHeartbeats 40000000 in
theorem rm2_0_1 (l : Launch) (Z : State) (a0 : Array Value) (hw : ∀ d ∈ tables_1, d.before a0 Z = true) (ws : List Jvm.Cond) (p0 : Int32) (h0 : Heap) (n0 : Nat) (Zs : n0 ≤ h0.size) :
    MetFree l (⟨"com/example/faithful_deputy/faithfuldeputy/BitsKeepOnlyPinLaw", "bitIn", "(IIZ)J"⟩ : MethodName) (head1 (Jvm.Cond.code (⟨"com/example/faithful_deputy/faithfuldeputy/BitsKeepOnlyPinLaw", "bitIn", "(IIZ)J"⟩ : MethodName) method_2_code 3 (some .long) :: ws) ({ frames := 0, cells := 0, slots := 0, locals := 0 } : Room)) (fun as' U => as' = #[(.int p0), (.int (0 : Int32)), (.int (1 : Int32))] ∧ Z.Warmed39 U.vm ∧ U.heap = h0) (fun _ _ _ _ _ => True) (fun _ U o U' => ∃ v L, o = .returned v ∧ Q2_0_1 Z p0 h0 n0 v U'.heap L ∧ FrameEnd U o U' L ({ frames := 0, cells := 0, slots := 0, locals := 0 } : Room).cells ({ frames := 0, cells := 0, slots := 0, locals := 0 } : Room).slots) := by
  refine MetFree.of_bodySF (plainFor_of_name pn_1) hisR ?_
  intro p e s m args below meth c s₁ Bd hml0 hP hK
  obtain ⟨rfl, hZ, hh⟩ := hP
  have hx := Bd.exec
  have hby := Bd.bytes
  have hml : c.maxLocals = 3 := hml0
  have hown : s.vm.findClass "com/example/faithful_deputy/faithfuldeputy/BitsKeepOnlyPinLaw" = some m.cls := findClass_of_methodNamed Bd.named
  have hnm := (name_of_methodNamed Bd.named Bd.method).1
  have hlk : meth.locks = false := Bd.notSynchronized
  have X0 : Stand p l e ({ frames := 0, cells := 0, slots := 0, locals := 0 } : Room) s m #[(.int p0), (.int (0 : Int32)), (.int (1 : Int32))] below meth c s₁ [] 0 0 := Stand.of_body Bd
  have e0 : s₁.heap = h0 := by rw [← hh, Bd.state]; rfl
  have Nf := Fr.nil n0
  refine (?_ : Win p.tables e below (PostQ s (Q2_0_1 Z p0 h0 n0) ({ frames := 0, cells := 0, slots := 0, locals := 0 } : Room).cells ({ frames := 0, cells := 0, slots := 0, locals := 0 } : Room).slots) (s₁.setTop (entryFrame m #[(.int p0), (.int (0 : Int32)), (.int (1 : Int32))] 3)))
  rw [ef_2_0_1]
  show Win p.tables e below _ (s₁.setTop (mkF m 0 #[.val (.int p0), .val (.int (0 : Int32)), .val (.int (1 : Int32))] []))
  refine s_iloadN (pc' := 1) X0.here hx (hb hby d2_0) rfl rfl ?_
  refine s_ifYes (pc' := 6) X0.here hx (hb hby d2_1) ((if0 _ _).trans (feqI (x := (1 : Int32)) (y := (0 : Int32)) (by decide)).2) (by decide) (by decide) ?_
  refine s_iloadN (pc' := 7) X0.here hx (hb hby d2_6) rfl rfl ?_
  refine s_bipush (pc' := 9) (z := (64 : Int32)) X0.here hx (hb hby d2_7) rfl rfl ?_
  refine Win.go (fun _ k => XS.idiv X0.here hx rfl (hb hby d2_9) rfl (by decide) k) ?_
  show Win p.tables e below _ (s₁.setTop (mkF m 10 #[.val (.int p0), .val (.int (0 : Int32)), .val (.int (1 : Int32))] [(.int (p0 / (64 : Int32)))]))
  refine s_iloadN (pc' := 11) X0.here hx (hb hby d2_10) rfl rfl ?_
  by_cases hc11 : ((p0 / (64 : Int32))).toInt = (0 : Int)
  · skip
    refine s_icmpYes (pc' := 16) X0.here hx (hb hby d2_11) (teqI (x := (p0 / (64 : Int32))) (y := (0 : Int32)) hc11).1 (by decide) (by decide) ?_
    refine s_lconst (pc' := 17) (z := (1 : Int64)) X0.here hx (hb hby d2_16) rfl rfl ?_
    refine s_iloadN (pc' := 18) X0.here hx (hb hby d2_17) rfl rfl ?_
    refine s_bipush (pc' := 20) (z := (64 : Int32)) X0.here hx (hb hby d2_18) rfl rfl ?_
    refine s_iloadN (pc' := 21) X0.here hx (hb hby d2_20) rfl rfl ?_
    refine Win.go (fun _ k => XS.imul X0.here hx rfl (hb hby d2_21) rfl k) ?_
    show Win p.tables e below _ (s₁.setTop (mkF m 22 #[.val (.int p0), .val (.int (0 : Int32)), .val (.int (1 : Int32))] [(.int (0 : Int32)), (.int p0), (.long (1 : Int64))]))
    refine s_isub (pc' := 23) X0.here hx (hb hby d2_22) rfl ?_
    refine Win.go (fun _ k => XT.lshl X0.here hx rfl (hb hby d2_23) rfl k) ?_
    show Win p.tables e below _ (s₁.setTop (mkF m 24 #[.val (.int p0), .val (.int (0 : Int32)), .val (.int (1 : Int32))] [(.long ((1 : Int64) <<< ((p0 - (0 : Int32)).toInt64 &&& 63)))]))
    refine winL X0 hx hlk e0 Bd.returns (hb hby d2_24) (by decide) (by decide) ?_
    exact ⟨Nf, rfl, _, rfl, (if_pos hc11).symm⟩
  · skip
    refine s_icmpNo (pc' := 14) X0.here hx (hb hby d2_11) rfl (feqI (x := (p0 / (64 : Int32))) (y := (0 : Int32)) hc11).1 ?_
    refine s_lconst (pc' := 15) (z := (0 : Int64)) X0.here hx (hb hby d2_14) rfl rfl ?_
    refine winL X0 hx hlk e0 Bd.returns (hb hby d2_15) (by decide) (by decide) ?_
    exact ⟨Nf, rfl, _, rfl, (if_neg hc11).symm⟩
theorem ef_2_1_0 (m : MethodId) (p0 : Int32) : entryFrame m #[(.int p0), (.int (1 : Int32)), (.int (0 : Int32))] 3 = mkF m 0 #[.val (.int p0), .val (.int (1 : Int32)), .val (.int (0 : Int32))] [] := by first | (simp [entryFrame, mkF, argsToLocals, Value.category]; done) | rfl
def Q2_1_0 (Z : State) (p0 : Int32) (h0 : Heap) (n0 : Nat) (v : Option Value) (h : Heap) (L : List Loc) : Prop := Fr n0 L ∧ h = h0 ∧ v = some (.long (0 : Int64))
set_option maxRecDepth 65536 in
set_option maxHeartbeats 40000000 in
theorem rm2_1_0 (l : Launch) (Z : State) (a0 : Array Value) (hw : ∀ d ∈ tables_1, d.before a0 Z = true) (ws : List Jvm.Cond) (p0 : Int32) (h0 : Heap) (n0 : Nat) (Zs : n0 ≤ h0.size) :
    MetFree l (⟨"com/example/faithful_deputy/faithfuldeputy/BitsKeepOnlyPinLaw", "bitIn", "(IIZ)J"⟩ : MethodName) (head1 (Jvm.Cond.code (⟨"com/example/faithful_deputy/faithfuldeputy/BitsKeepOnlyPinLaw", "bitIn", "(IIZ)J"⟩ : MethodName) method_2_code 3 (some .long) :: ws) ({ frames := 0, cells := 0, slots := 0, locals := 0 } : Room)) (fun as' U => as' = #[(.int p0), (.int (1 : Int32)), (.int (0 : Int32))] ∧ Z.Warmed39 U.vm ∧ U.heap = h0) (fun _ _ _ _ _ => True) (fun _ U o U' => ∃ v L, o = .returned v ∧ Q2_1_0 Z p0 h0 n0 v U'.heap L ∧ FrameEnd U o U' L ({ frames := 0, cells := 0, slots := 0, locals := 0 } : Room).cells ({ frames := 0, cells := 0, slots := 0, locals := 0 } : Room).slots) := by
  refine MetFree.of_bodySF (plainFor_of_name pn_1) hisR ?_
  intro p e s m args below meth c s₁ Bd hml0 hP hK
  obtain ⟨rfl, hZ, hh⟩ := hP
  have hx := Bd.exec
  have hby := Bd.bytes
  have hml : c.maxLocals = 3 := hml0
  have hown : s.vm.findClass "com/example/faithful_deputy/faithfuldeputy/BitsKeepOnlyPinLaw" = some m.cls := findClass_of_methodNamed Bd.named
  have hnm := (name_of_methodNamed Bd.named Bd.method).1
  have hlk : meth.locks = false := Bd.notSynchronized
  have X0 : Stand p l e ({ frames := 0, cells := 0, slots := 0, locals := 0 } : Room) s m #[(.int p0), (.int (1 : Int32)), (.int (0 : Int32))] below meth c s₁ [] 0 0 := Stand.of_body Bd
  have e0 : s₁.heap = h0 := by rw [← hh, Bd.state]; rfl
  have Nf := Fr.nil n0
  refine (?_ : Win p.tables e below (PostQ s (Q2_1_0 Z p0 h0 n0) ({ frames := 0, cells := 0, slots := 0, locals := 0 } : Room).cells ({ frames := 0, cells := 0, slots := 0, locals := 0 } : Room).slots) (s₁.setTop (entryFrame m #[(.int p0), (.int (1 : Int32)), (.int (0 : Int32))] 3)))
  rw [ef_2_1_0]
  show Win p.tables e below _ (s₁.setTop (mkF m 0 #[.val (.int p0), .val (.int (1 : Int32)), .val (.int (0 : Int32))] []))
  refine s_iloadN (pc' := 1) X0.here hx (hb hby d2_0) rfl rfl ?_
  refine s_ifNo (pc' := 4) X0.here hx (hb hby d2_1) rfl ((if0 _ _).trans (teqI (x := (0 : Int32)) (y := (0 : Int32)) (by decide)).2) ?_
  refine s_lconst (pc' := 5) (z := (0 : Int64)) X0.here hx (hb hby d2_4) rfl rfl ?_
  refine winL X0 hx hlk e0 Bd.returns (hb hby d2_5) (by decide) (by decide) ?_
  exact ⟨Nf, rfl, rfl⟩
theorem ef_2_1_1 (m : MethodId) (p0 : Int32) : entryFrame m #[(.int p0), (.int (1 : Int32)), (.int (1 : Int32))] 3 = mkF m 0 #[.val (.int p0), .val (.int (1 : Int32)), .val (.int (1 : Int32))] [] := by first | (simp [entryFrame, mkF, argsToLocals, Value.category]; done) | rfl
def Q2_1_1 (Z : State) (p0 : Int32) (h0 : Heap) (n0 : Nat) (v : Option Value) (h : Heap) (L : List Loc) : Prop := Fr n0 L ∧ h = h0 ∧ (∃ z : Int64, v = some (.long z) ∧ (z = bit1 p0))
set_option maxRecDepth 65536 in
set_option maxHeartbeats 40000000 in
theorem rm2_1_1 (l : Launch) (Z : State) (a0 : Array Value) (hw : ∀ d ∈ tables_1, d.before a0 Z = true) (ws : List Jvm.Cond) (p0 : Int32) (h0 : Heap) (n0 : Nat) (Zs : n0 ≤ h0.size) :
    MetFree l (⟨"com/example/faithful_deputy/faithfuldeputy/BitsKeepOnlyPinLaw", "bitIn", "(IIZ)J"⟩ : MethodName) (head1 (Jvm.Cond.code (⟨"com/example/faithful_deputy/faithfuldeputy/BitsKeepOnlyPinLaw", "bitIn", "(IIZ)J"⟩ : MethodName) method_2_code 3 (some .long) :: ws) ({ frames := 0, cells := 0, slots := 0, locals := 0 } : Room)) (fun as' U => as' = #[(.int p0), (.int (1 : Int32)), (.int (1 : Int32))] ∧ Z.Warmed39 U.vm ∧ U.heap = h0) (fun _ _ _ _ _ => True) (fun _ U o U' => ∃ v L, o = .returned v ∧ Q2_1_1 Z p0 h0 n0 v U'.heap L ∧ FrameEnd U o U' L ({ frames := 0, cells := 0, slots := 0, locals := 0 } : Room).cells ({ frames := 0, cells := 0, slots := 0, locals := 0 } : Room).slots) := by
  refine MetFree.of_bodySF (plainFor_of_name pn_1) hisR ?_
  intro p e s m args below meth c s₁ Bd hml0 hP hK
  obtain ⟨rfl, hZ, hh⟩ := hP
  have hx := Bd.exec
  have hby := Bd.bytes
  have hml : c.maxLocals = 3 := hml0
  have hown : s.vm.findClass "com/example/faithful_deputy/faithfuldeputy/BitsKeepOnlyPinLaw" = some m.cls := findClass_of_methodNamed Bd.named
  have hnm := (name_of_methodNamed Bd.named Bd.method).1
  have hlk : meth.locks = false := Bd.notSynchronized
  have X0 : Stand p l e ({ frames := 0, cells := 0, slots := 0, locals := 0 } : Room) s m #[(.int p0), (.int (1 : Int32)), (.int (1 : Int32))] below meth c s₁ [] 0 0 := Stand.of_body Bd
  have e0 : s₁.heap = h0 := by rw [← hh, Bd.state]; rfl
  have Nf := Fr.nil n0
  refine (?_ : Win p.tables e below (PostQ s (Q2_1_1 Z p0 h0 n0) ({ frames := 0, cells := 0, slots := 0, locals := 0 } : Room).cells ({ frames := 0, cells := 0, slots := 0, locals := 0 } : Room).slots) (s₁.setTop (entryFrame m #[(.int p0), (.int (1 : Int32)), (.int (1 : Int32))] 3)))
  rw [ef_2_1_1]
  show Win p.tables e below _ (s₁.setTop (mkF m 0 #[.val (.int p0), .val (.int (1 : Int32)), .val (.int (1 : Int32))] []))
  refine s_iloadN (pc' := 1) X0.here hx (hb hby d2_0) rfl rfl ?_
  refine s_ifYes (pc' := 6) X0.here hx (hb hby d2_1) ((if0 _ _).trans (feqI (x := (1 : Int32)) (y := (0 : Int32)) (by decide)).2) (by decide) (by decide) ?_
  refine s_iloadN (pc' := 7) X0.here hx (hb hby d2_6) rfl rfl ?_
  refine s_bipush (pc' := 9) (z := (64 : Int32)) X0.here hx (hb hby d2_7) rfl rfl ?_
  refine Win.go (fun _ k => XS.idiv X0.here hx rfl (hb hby d2_9) rfl (by decide) k) ?_
  show Win p.tables e below _ (s₁.setTop (mkF m 10 #[.val (.int p0), .val (.int (1 : Int32)), .val (.int (1 : Int32))] [(.int (p0 / (64 : Int32)))]))
  refine s_iloadN (pc' := 11) X0.here hx (hb hby d2_10) rfl rfl ?_
  by_cases hc11 : ((p0 / (64 : Int32))).toInt = (1 : Int)
  · skip
    refine s_icmpYes (pc' := 16) X0.here hx (hb hby d2_11) (teqI (x := (p0 / (64 : Int32))) (y := (1 : Int32)) hc11).1 (by decide) (by decide) ?_
    refine s_lconst (pc' := 17) (z := (1 : Int64)) X0.here hx (hb hby d2_16) rfl rfl ?_
    refine s_iloadN (pc' := 18) X0.here hx (hb hby d2_17) rfl rfl ?_
    refine s_bipush (pc' := 20) (z := (64 : Int32)) X0.here hx (hb hby d2_18) rfl rfl ?_
    refine s_iloadN (pc' := 21) X0.here hx (hb hby d2_20) rfl rfl ?_
    refine Win.go (fun _ k => XS.imul X0.here hx rfl (hb hby d2_21) rfl k) ?_
    show Win p.tables e below _ (s₁.setTop (mkF m 22 #[.val (.int p0), .val (.int (1 : Int32)), .val (.int (1 : Int32))] [(.int (64 : Int32)), (.int p0), (.long (1 : Int64))]))
    refine s_isub (pc' := 23) X0.here hx (hb hby d2_22) rfl ?_
    refine Win.go (fun _ k => XT.lshl X0.here hx rfl (hb hby d2_23) rfl k) ?_
    show Win p.tables e below _ (s₁.setTop (mkF m 24 #[.val (.int p0), .val (.int (1 : Int32)), .val (.int (1 : Int32))] [(.long ((1 : Int64) <<< ((p0 - (64 : Int32)).toInt64 &&& 63)))]))
    refine winL X0 hx hlk e0 Bd.returns (hb hby d2_24) (by decide) (by decide) ?_
    exact ⟨Nf, rfl, _, rfl, (if_pos hc11).symm⟩
  · skip
    refine s_icmpNo (pc' := 14) X0.here hx (hb hby d2_11) rfl (feqI (x := (p0 / (64 : Int32))) (y := (1 : Int32)) hc11).1 ?_
    refine s_lconst (pc' := 15) (z := (0 : Int64)) X0.here hx (hb hby d2_14) rfl rfl ?_
    refine winL X0 hx hlk e0 Bd.returns (hb hby d2_15) (by decide) (by decide) ?_
    exact ⟨Nf, rfl, _, rfl, (if_neg hc11).symm⟩
theorem d3_0 : decode prog_2_method_8_code 0 = .ok (.lconst 0, 1) := by decide +kernel
theorem d3_1 : decode prog_2_method_8_code 1 = .ok (.lstore_n 2, 1) := by decide +kernel
theorem d3_2 : decode prog_2_method_8_code 2 = .ok (.iconst 0, 1) := by decide +kernel
theorem d3_3 : decode prog_2_method_8_code 3 = .ok (.istore 4, 2) := by decide +kernel
theorem d3_5 : decode prog_2_method_8_code 5 = .ok (.iconst 0, 1) := by decide +kernel
theorem d3_6 : decode prog_2_method_8_code 6 = .ok (.istore 5, 2) := by decide +kernel
theorem d3_8 : decode prog_2_method_8_code 8 = .ok (.iload 5, 2) := by decide +kernel
theorem d3_10 : decode prog_2_method_8_code 10 = .ok (.aload_n 0, 1) := by decide +kernel
theorem d3_11 : decode prog_2_method_8_code 11 = .ok (.arraylength, 1) := by decide +kernel
theorem d3_12 : decode prog_2_method_8_code 12 = .ok (.if_icmp .ge 74, 3) := by decide +kernel
theorem d3_15 : decode prog_2_method_8_code 15 = .ok (.lconst 0, 1) := by decide +kernel
theorem d3_16 : decode prog_2_method_8_code 16 = .ok (.lstore 6, 2) := by decide +kernel
theorem d3_18 : decode prog_2_method_8_code 18 = .ok (.iload 4, 2) := by decide +kernel
theorem d3_20 : decode prog_2_method_8_code 20 = .ok (.aload_n 1, 1) := by decide +kernel
theorem d3_21 : decode prog_2_method_8_code 21 = .ok (.arraylength, 1) := by decide +kernel
theorem d3_22 : decode prog_2_method_8_code 22 = .ok (.if_icmp .ge 35, 3) := by decide +kernel
theorem d3_57 : decode prog_2_method_8_code 57 = .ok (.lload_n 2, 1) := by decide +kernel
theorem d3_58 : decode prog_2_method_8_code 58 = .ok (.aload_n 0, 1) := by decide +kernel
theorem d3_59 : decode prog_2_method_8_code 59 = .ok (.iload 5, 2) := by decide +kernel
theorem d3_61 : decode prog_2_method_8_code 61 = .ok (.laload, 1) := by decide +kernel
theorem d3_62 : decode prog_2_method_8_code 62 = .ok (.lload 6, 2) := by decide +kernel
theorem d3_64 : decode prog_2_method_8_code 64 = .ok (.ldc2_w 15, 3) := by decide +kernel
theorem d3_67 : decode prog_2_method_8_code 67 = .ok (.lxor, 1) := by decide +kernel
theorem d3_68 : decode prog_2_method_8_code 68 = .ok (.land, 1) := by decide +kernel
theorem d3_69 : decode prog_2_method_8_code 69 = .ok (.lor, 1) := by decide +kernel
theorem d3_70 : decode prog_2_method_8_code 70 = .ok (.lstore_n 2, 1) := by decide +kernel
theorem d3_71 : decode prog_2_method_8_code 71 = .ok (.aload_n 0, 1) := by decide +kernel
theorem d3_72 : decode prog_2_method_8_code 72 = .ok (.iload 5, 2) := by decide +kernel
theorem d3_74 : decode prog_2_method_8_code 74 = .ok (.dup2, 1) := by decide +kernel
theorem d3_75 : decode prog_2_method_8_code 75 = .ok (.laload, 1) := by decide +kernel
theorem d3_76 : decode prog_2_method_8_code 76 = .ok (.lload 6, 2) := by decide +kernel
theorem d3_78 : decode prog_2_method_8_code 78 = .ok (.land, 1) := by decide +kernel
theorem d3_79 : decode prog_2_method_8_code 79 = .ok (.lastore, 1) := by decide +kernel
theorem d3_80 : decode prog_2_method_8_code 80 = .ok (.iinc 5 1, 3) := by decide +kernel
theorem d3_83 : decode prog_2_method_8_code 83 = .ok (.goto (-75), 3) := by decide +kernel
theorem d3_86 : decode prog_2_method_8_code 86 = .ok (.lload_n 2, 1) := by decide +kernel
theorem d3_87 : decode prog_2_method_8_code 87 = .ok (.lconst 0, 1) := by decide +kernel
theorem d3_88 : decode prog_2_method_8_code 88 = .ok (.lcmp, 1) := by decide +kernel
theorem d3_89 : decode prog_2_method_8_code 89 = .ok (.ifCond .eq 7, 3) := by decide +kernel
theorem d3_92 : decode prog_2_method_8_code 92 = .ok (.iconst 1, 1) := by decide +kernel
theorem d3_93 : decode prog_2_method_8_code 93 = .ok (.goto 4, 3) := by decide +kernel
theorem d3_96 : decode prog_2_method_8_code 96 = .ok (.iconst 0, 1) := by decide +kernel
theorem d3_97 : decode prog_2_method_8_code 97 = .ok (.ireturn, 1) := by decide +kernel
theorem pn_3 : plainName "com/example/faithful_deputy/faithfuldeputy/Bits" = true := by first | (simp [plainName, overriddenIn]; done) | decide +kernel
theorem ef_3_0 (m : MethodId) (a : Addr) (b : Addr) : entryFrame m #[(.ref a), (.ref b)] 8 = mkF m 0 #[.val (.ref a), .val (.ref b), .unset, .unset, .unset, .unset, .unset, .unset] [] := by first | (simp [entryFrame, mkF, argsToLocals, Value.category]; done) | rfl
def Q3_0 (Z : State) (a : Addr) (b : Addr) (ka : ClassId) (u0 : Int64) (u1 : Int64) (kb : ClassId) (h0 : Heap) (n0 : Nat) (v : Option Value) (h : Heap) (L : List Loc) : Prop := Fr n0 L ∧ Keep h0 h [a] ∧ Arv Z h a ka .long (2 : Int32) [(.long (u0 &&& ((((0 : Int64) ||| (0 : Int64)) ||| (0 : Int64)) ||| (0 : Int64)))), (.long (u1 &&& ((((0 : Int64) ||| (0 : Int64)) ||| (0 : Int64)) ||| (0 : Int64))))] (.long (0 : Int64)) ∧ (∃ z : Int32, v = some (.int z) ∧ ((z.toInt = 1 ∧ (¬ ((((0 : Int64) ||| (u0 &&& (((((0 : Int64) ||| (0 : Int64)) ||| (0 : Int64)) ||| (0 : Int64)) ^^^ (-1 : Int64)))) ||| (u1 &&& (((((0 : Int64) ||| (0 : Int64)) ||| (0 : Int64)) ||| (0 : Int64)) ^^^ (-1 : Int64))))).toInt = 0)) ∨ (z.toInt = 0 ∧ ¬ (¬ ((((0 : Int64) ||| (u0 &&& (((((0 : Int64) ||| (0 : Int64)) ||| (0 : Int64)) ||| (0 : Int64)) ^^^ (-1 : Int64)))) ||| (u1 &&& (((((0 : Int64) ||| (0 : Int64)) ||| (0 : Int64)) ||| (0 : Int64)) ^^^ (-1 : Int64))))).toInt = 0))))
set_option maxRecDepth 65536 in
set_option maxHeartbeats 40000000 in
theorem rm3_0 (l : Launch) (Z : State) (a0 : Array Value) (hw : ∀ d ∈ tables_1, d.before a0 Z = true) (ws : List Jvm.Cond) (a : Addr) (b : Addr) (ka : ClassId) (u0 : Int64) (u1 : Int64) (kb : ClassId) (h0 : Heap) (n0 : Nat) (Zs : n0 ≤ h0.size) (V_a : Arv Z h0 a ka .long (2 : Int32) [(.long u0), (.long u1)] (.long (0 : Int64))) (V_b : Arv Z h0 b kb .int (0 : Int32) [] (.int (0 : Int32))) (g_a : n0 ≤ a) (ne_b_a : b ≠ a) (hv : True) :
    MetFree l (⟨"com/example/faithful_deputy/faithfuldeputy/Bits", "keepOnly", "([J[I)Z"⟩ : MethodName) (head1 (Jvm.Cond.code (⟨"com/example/faithful_deputy/faithfuldeputy/Bits", "keepOnly", "([J[I)Z"⟩ : MethodName) prog_2_method_8_code 8 (some .boolean) :: ws) ({ frames := 0, cells := 0, slots := 0, locals := 0 } : Room)) (fun as' U => as' = #[(.ref a), (.ref b)] ∧ Z.Warmed39 U.vm ∧ U.heap = h0) (fun _ _ _ _ _ => True) (fun _ U o U' => ∃ v L, o = .returned v ∧ Q3_0 Z a b ka u0 u1 kb h0 n0 v U'.heap L ∧ FrameEnd U o U' L ({ frames := 0, cells := 0, slots := 0, locals := 0 } : Room).cells ({ frames := 0, cells := 0, slots := 0, locals := 0 } : Room).slots) := by
  refine MetFree.of_bodySF (plainFor_of_name pn_3) hisR ?_
  intro p e s m args below meth c s₁ Bd hml0 hP hK
  obtain ⟨rfl, hZ, hh⟩ := hP
  have hx := Bd.exec
  have hby := Bd.bytes
  have hml : c.maxLocals = 8 := hml0
  have hown : s.vm.findClass "com/example/faithful_deputy/faithfuldeputy/Bits" = some m.cls := findClass_of_methodNamed Bd.named
  have hnm := (name_of_methodNamed Bd.named Bd.method).1
  have hlk : meth.locks = false := Bd.notSynchronized
  have X0 : Stand p l e ({ frames := 0, cells := 0, slots := 0, locals := 0 } : Room) s m #[(.ref a), (.ref b)] below meth c s₁ [] 0 0 := Stand.of_body Bd
  have e0 : s₁.heap = h0 := by rw [← hh, Bd.state]; rfl
  have Nf := Fr.nil n0
  refine (?_ : Win p.tables e below (PostQ s (Q3_0 Z a b ka u0 u1 kb h0 n0) ({ frames := 0, cells := 0, slots := 0, locals := 0 } : Room).cells ({ frames := 0, cells := 0, slots := 0, locals := 0 } : Room).slots) (s₁.setTop (entryFrame m #[(.ref a), (.ref b)] 8)))
  rw [ef_3_0]
  have Kp : Keep h0 h0 [a] := Keep.refl h0 _
  have lt_a : a < h0.size := V_a.lt
  have lt_b : b < h0.size := V_b.lt
  show Win p.tables e below _ (s₁.setTop (mkF m 0 #[.val (.ref a), .val (.ref b), .unset, .unset, .unset, .unset, .unset, .unset] []))
  refine s_lconst (pc' := 1) (z := (0 : Int64)) X0.here hx (hb hby d3_0) rfl rfl ?_
  refine s_lstoreN (pc' := 2) (l' := #[.val (.ref a), .val (.ref b), .val (.long (0 : Int64)), .second, .unset, .unset, .unset, .unset]) X0.here hx (hb hby d3_1) rfl rfl ?_
  refine s_iconst (pc' := 3) (z := (0 : Int32)) X0.here hx (hb hby d3_2) rfl rfl ?_
  refine s_istore (pc' := 5) (l' := #[.val (.ref a), .val (.ref b), .val (.long (0 : Int64)), .second, .val (.int (0 : Int32)), .unset, .unset, .unset]) X0.here hx (hb hby d3_3) rfl rfl ?_
  refine s_iconst (pc' := 6) (z := (0 : Int32)) X0.here hx (hb hby d3_5) rfl rfl ?_
  refine s_istore (pc' := 8) (l' := #[.val (.ref a), .val (.ref b), .val (.long (0 : Int64)), .second, .val (.int (0 : Int32)), .val (.int (0 : Int32)), .unset, .unset]) X0.here hx (hb hby d3_6) rfl rfl ?_
  refine s_iload (pc' := 10) X0.here hx (hb hby d3_8) rfl rfl ?_
  refine s_aloadN (pc' := 11) X0.here hx (hb hby d3_10) rfl rfl rfl ?_
  obtain ⟨cl_16, Ar_16, q_16, S_16, N_16, H_16, G_16⟩ := id V_a
  refine Win.go (fun _ k => X0.arraylength hx (by rw [e0]; exact Ar_16.1) (State.isArrayOf_alike hZ.alike Ar_16.2.1) (g := (mkF m 11 #[.val (.ref a), .val (.ref b), .val (.long (0 : Int64)), .second, .val (.int (0 : Int32)), .val (.int (0 : Int32)), .unset, .unset] [(.ref a), (.int (0 : Int32))])) rfl rfl (hb hby d3_11) _ k) ?_
  rw [len_of S_16 N_16]
  clear Ar_16 q_16 S_16 N_16 H_16 G_16
  show Win p.tables e below _ (s₁.setTop (mkF m 12 #[.val (.ref a), .val (.ref b), .val (.long (0 : Int64)), .second, .val (.int (0 : Int32)), .val (.int (0 : Int32)), .unset, .unset] [(.int (2 : Int32)), (.int (0 : Int32))]))
  refine s_icmpNo (pc' := 15) X0.here hx (hb hby d3_12) rfl (tltI (x := (0 : Int32)) (y := (2 : Int32)) (by decide)).2.1 ?_
  refine s_lconst (pc' := 16) (z := (0 : Int64)) X0.here hx (hb hby d3_15) rfl rfl ?_
  refine s_lstore (pc' := 18) (l' := #[.val (.ref a), .val (.ref b), .val (.long (0 : Int64)), .second, .val (.int (0 : Int32)), .val (.int (0 : Int32)), .val (.long (0 : Int64)), .second]) X0.here hx (hb hby d3_16) rfl rfl ?_
  refine s_iload (pc' := 20) X0.here hx (hb hby d3_18) rfl rfl ?_
  refine s_aloadN (pc' := 21) X0.here hx (hb hby d3_20) rfl rfl rfl ?_
  obtain ⟨cl_17, Ar_17, q_17, S_17, N_17, H_17, G_17⟩ := id V_b
  refine Win.go (fun _ k => X0.arraylength hx (by rw [e0]; exact Ar_17.1) (State.isArrayOf_alike hZ.alike Ar_17.2.1) (g := (mkF m 21 #[.val (.ref a), .val (.ref b), .val (.long (0 : Int64)), .second, .val (.int (0 : Int32)), .val (.int (0 : Int32)), .val (.long (0 : Int64)), .second] [(.ref b), (.int (0 : Int32))])) rfl rfl (hb hby d3_21) _ k) ?_
  rw [len_of S_17 N_17]
  clear Ar_17 q_17 S_17 N_17 H_17 G_17
  show Win p.tables e below _ (s₁.setTop (mkF m 22 #[.val (.ref a), .val (.ref b), .val (.long (0 : Int64)), .second, .val (.int (0 : Int32)), .val (.int (0 : Int32)), .val (.long (0 : Int64)), .second] [(.int (0 : Int32)), (.int (0 : Int32))]))
  refine s_icmpYes (pc' := 57) X0.here hx (hb hby d3_22) (fltI (x := (0 : Int32)) (y := (0 : Int32)) (by decide)).2.1 (by decide) (by decide) ?_
  refine s_lloadN (pc' := 58) X0.here hx (hb hby d3_57) rfl rfl ?_
  refine s_aloadN (pc' := 59) X0.here hx (hb hby d3_58) rfl rfl rfl ?_
  refine s_iload (pc' := 61) X0.here hx (hb hby d3_59) rfl rfl ?_
  obtain ⟨cl_18, Ar_18, q_18, S_18, N_18, H_18, G_18⟩ := id V_a
  have hi_18 : ¬ ((0 : Int32) < 0 ∨ cl_18.slots.size ≤ ((0 : Int32)).toNatClampNeg) := inb_of S_18 ⟨by decide, by decide⟩
  refine Win.go (fun _ k => X0.laload hx (j := (0 : Int32)) (v := (.long u0)) (by rw [e0]; exact Ar_18.1) (State.isArrayOf_alike hZ.alike Ar_18.2.1) Ar_18.2.2 hi_18 (H_18.at hi_18 rfl) (g := (mkF m 61 #[.val (.ref a), .val (.ref b), .val (.long (0 : Int64)), .second, .val (.int (0 : Int32)), .val (.int (0 : Int32)), .val (.long (0 : Int64)), .second] [(.int (0 : Int32)), (.ref a), (.long (0 : Int64))])) rfl rfl (hb hby d3_61) _ k) ?_
  show Win p.tables e below _ (s₁.setTop (mkF m 62 #[.val (.ref a), .val (.ref b), .val (.long (0 : Int64)), .second, .val (.int (0 : Int32)), .val (.int (0 : Int32)), .val (.long (0 : Int64)), .second] [(.long u0), (.long (0 : Int64))]))
  clear Ar_18 q_18 S_18 N_18 H_18 G_18 hi_18
  refine s_lload (pc' := 64) X0.here hx (hb hby d3_62) rfl rfl ?_
  refine Win.go (fun _ k => X0.ldc2Long hx hown (mvT hZ (hw _ (List.mem_of_getElem? (i := 14) rfl))) (g := (mkF m 64 #[.val (.ref a), .val (.ref b), .val (.long (0 : Int64)), .second, .val (.int (0 : Int32)), .val (.int (0 : Int32)), .val (.long (0 : Int64)), .second] [(.long (0 : Int64)), (.long u0), (.long (0 : Int64))])) rfl (hb hby d3_64) _ k) ?_
  show Win p.tables e below _ (s₁.setTop (mkF m 67 #[.val (.ref a), .val (.ref b), .val (.long (0 : Int64)), .second, .val (.int (0 : Int32)), .val (.int (0 : Int32)), .val (.long (0 : Int64)), .second] [(.long (-1 : Int64)), (.long (0 : Int64)), (.long u0), (.long (0 : Int64))]))
  refine Win.go (fun _ k => XS.lxor X0.here hx rfl (hb hby d3_67) rfl k) ?_
  show Win p.tables e below _ (s₁.setTop (mkF m 68 #[.val (.ref a), .val (.ref b), .val (.long (0 : Int64)), .second, .val (.int (0 : Int32)), .val (.int (0 : Int32)), .val (.long (0 : Int64)), .second] [(.long (-1 : Int64)), (.long u0), (.long (0 : Int64))]))
  refine s_land (pc' := 69) X0.here hx (hb hby d3_68) rfl ?_
  refine s_lor (pc' := 70) X0.here hx (hb hby d3_69) rfl ?_
  refine s_lstoreN (pc' := 71) (l' := #[.val (.ref a), .val (.ref b), .val (.long ((0 : Int64) ||| (u0 &&& (-1 : Int64)))), .second, .val (.int (0 : Int32)), .val (.int (0 : Int32)), .val (.long (0 : Int64)), .second]) X0.here hx (hb hby d3_70) rfl rfl ?_
  generalize ht0 : ((0 : Int64) ||| (u0 &&& (-1 : Int64))) = t0
  show Win p.tables e below _ (s₁.setTop (mkF m 71 #[.val (.ref a), .val (.ref b), .val (.long t0), .second, .val (.int (0 : Int32)), .val (.int (0 : Int32)), .val (.long (0 : Int64)), .second] []))
  refine s_aloadN (pc' := 72) X0.here hx (hb hby d3_71) rfl rfl rfl ?_
  refine s_iload (pc' := 74) X0.here hx (hb hby d3_72) rfl rfl ?_
  refine Win.go (fun _ k => XT.dup2 X0.here hx rfl (hb hby d3_74) rfl rfl rfl k) ?_
  show Win p.tables e below _ (s₁.setTop (mkF m 75 #[.val (.ref a), .val (.ref b), .val (.long t0), .second, .val (.int (0 : Int32)), .val (.int (0 : Int32)), .val (.long (0 : Int64)), .second] [(.int (0 : Int32)), (.ref a), (.int (0 : Int32)), (.ref a)]))
  obtain ⟨cl_19, Ar_19, q_19, S_19, N_19, H_19, G_19⟩ := id V_a
  have hi_19 : ¬ ((0 : Int32) < 0 ∨ cl_19.slots.size ≤ ((0 : Int32)).toNatClampNeg) := inb_of S_19 ⟨by decide, by decide⟩
  refine Win.go (fun _ k => X0.laload hx (j := (0 : Int32)) (v := (.long u0)) (by rw [e0]; exact Ar_19.1) (State.isArrayOf_alike hZ.alike Ar_19.2.1) Ar_19.2.2 hi_19 (H_19.at hi_19 rfl) (g := (mkF m 75 #[.val (.ref a), .val (.ref b), .val (.long t0), .second, .val (.int (0 : Int32)), .val (.int (0 : Int32)), .val (.long (0 : Int64)), .second] [(.int (0 : Int32)), (.ref a), (.int (0 : Int32)), (.ref a)])) rfl rfl (hb hby d3_75) _ k) ?_
  show Win p.tables e below _ (s₁.setTop (mkF m 76 #[.val (.ref a), .val (.ref b), .val (.long t0), .second, .val (.int (0 : Int32)), .val (.int (0 : Int32)), .val (.long (0 : Int64)), .second] [(.long u0), (.int (0 : Int32)), (.ref a)]))
  clear Ar_19 q_19 S_19 N_19 H_19 G_19 hi_19
  refine s_lload (pc' := 78) X0.here hx (hb hby d3_76) rfl rfl ?_
  refine s_land (pc' := 79) X0.here hx (hb hby d3_78) rfl ?_
  obtain ⟨cl_20, Ar_20, q_20, S_20, N_20, H_20, G_20⟩ := V_a
  obtain ⟨T_20, h_20, X_20, e_20, W_20, st_20⟩ := stJ X0 hx hZ e0 Ar_20 (j := (0 : Int32)) (inb_of S_20 ⟨by decide, by decide⟩) (g := (mkF m 79 #[.val (.ref a), .val (.ref b), .val (.long t0), .second, .val (.int (0 : Int32)), .val (.int (0 : Int32)), .val (.long (0 : Int64)), .second] [(.long (u0 &&& (0 : Int64))), (.int (0 : Int32)), (.ref a)])) rfl rfl (hb hby d3_79)
  have V_20 := Arv.set Ar_20 q_20 S_20 N_20 H_20 G_20 rfl W_20 0 rfl (Nat.le_of_ble_eq_true rfl)
  replace V_b := V_b.other W_20 ne_b_a
  replace lt_a := Nat.lt_of_lt_of_le lt_a (Keep.of_wr W_20).1
  replace lt_b := Nat.lt_of_lt_of_le lt_b (Keep.of_wr W_20).1
  replace Zs := Nat.le_trans Zs (Keep.of_wr W_20).1
  replace Kp := Kp.wr W_20 (Or.inl (by simp))
  replace V_a : Arv Z h_20 a ka .long (2 : Int32) [(.long (u0 &&& (0 : Int64))), (.long u1)] (.long (0 : Int64)) := V_20
  replace Nf := Fr.snoc X_20 Nf g_a
  refine Win.go st_20 ?_
  clear st_20 W_20 V_20 Ar_20 q_20 S_20 N_20 H_20 G_20 X0 e0
  show Win p.tables e below _ (T_20.setTop (mkF m 80 #[.val (.ref a), .val (.ref b), .val (.long t0), .second, .val (.int (0 : Int32)), .val (.int (0 : Int32)), .val (.long (0 : Int64)), .second] []))
  refine Win.go (fun _ k => XS.iinc X_20.here hx rfl (hb hby d3_80) rfl (l' := #[.val (.ref a), .val (.ref b), .val (.long t0), .second, .val (.int (0 : Int32)), .val (.int (1 : Int32)), .val (.long (0 : Int64)), .second]) rfl k) ?_
  show Win p.tables e below _ (T_20.setTop (mkF m 83 #[.val (.ref a), .val (.ref b), .val (.long t0), .second, .val (.int (0 : Int32)), .val (.int (1 : Int32)), .val (.long (0 : Int64)), .second] []))
  refine s_goto (pc' := 8) X_20.here hx (hb hby d3_83) (by decide) (by decide) ?_
  refine s_iload (pc' := 10) X_20.here hx (hb hby d3_8) rfl rfl ?_
  refine s_aloadN (pc' := 11) X_20.here hx (hb hby d3_10) rfl rfl rfl ?_
  obtain ⟨cl_21, Ar_21, q_21, S_21, N_21, H_21, G_21⟩ := id V_a
  refine Win.go (fun _ k => X_20.arraylength hx (by rw [e_20]; exact Ar_21.1) (State.isArrayOf_alike hZ.alike Ar_21.2.1) (g := (mkF m 11 #[.val (.ref a), .val (.ref b), .val (.long t0), .second, .val (.int (0 : Int32)), .val (.int (1 : Int32)), .val (.long (0 : Int64)), .second] [(.ref a), (.int (1 : Int32))])) rfl rfl (hb hby d3_11) _ k) ?_
  rw [len_of S_21 N_21]
  clear Ar_21 q_21 S_21 N_21 H_21 G_21
  show Win p.tables e below _ (T_20.setTop (mkF m 12 #[.val (.ref a), .val (.ref b), .val (.long t0), .second, .val (.int (0 : Int32)), .val (.int (1 : Int32)), .val (.long (0 : Int64)), .second] [(.int (2 : Int32)), (.int (1 : Int32))]))
  refine s_icmpNo (pc' := 15) X_20.here hx (hb hby d3_12) rfl (tltI (x := (1 : Int32)) (y := (2 : Int32)) (by decide)).2.1 ?_
  refine s_lconst (pc' := 16) (z := (0 : Int64)) X_20.here hx (hb hby d3_15) rfl rfl ?_
  refine s_lstore (pc' := 18) (l' := #[.val (.ref a), .val (.ref b), .val (.long t0), .second, .val (.int (0 : Int32)), .val (.int (1 : Int32)), .val (.long (0 : Int64)), .second]) X_20.here hx (hb hby d3_16) rfl rfl ?_
  refine s_iload (pc' := 20) X_20.here hx (hb hby d3_18) rfl rfl ?_
  refine s_aloadN (pc' := 21) X_20.here hx (hb hby d3_20) rfl rfl rfl ?_
  obtain ⟨cl_22, Ar_22, q_22, S_22, N_22, H_22, G_22⟩ := id V_b
  refine Win.go (fun _ k => X_20.arraylength hx (by rw [e_20]; exact Ar_22.1) (State.isArrayOf_alike hZ.alike Ar_22.2.1) (g := (mkF m 21 #[.val (.ref a), .val (.ref b), .val (.long t0), .second, .val (.int (0 : Int32)), .val (.int (1 : Int32)), .val (.long (0 : Int64)), .second] [(.ref b), (.int (0 : Int32))])) rfl rfl (hb hby d3_21) _ k) ?_
  rw [len_of S_22 N_22]
  clear Ar_22 q_22 S_22 N_22 H_22 G_22
  show Win p.tables e below _ (T_20.setTop (mkF m 22 #[.val (.ref a), .val (.ref b), .val (.long t0), .second, .val (.int (0 : Int32)), .val (.int (1 : Int32)), .val (.long (0 : Int64)), .second] [(.int (0 : Int32)), (.int (0 : Int32))]))
  refine s_icmpYes (pc' := 57) X_20.here hx (hb hby d3_22) (fltI (x := (0 : Int32)) (y := (0 : Int32)) (by decide)).2.1 (by decide) (by decide) ?_
  refine s_lloadN (pc' := 58) X_20.here hx (hb hby d3_57) rfl rfl ?_
  refine s_aloadN (pc' := 59) X_20.here hx (hb hby d3_58) rfl rfl rfl ?_
  refine s_iload (pc' := 61) X_20.here hx (hb hby d3_59) rfl rfl ?_
  obtain ⟨cl_23, Ar_23, q_23, S_23, N_23, H_23, G_23⟩ := id V_a
  have hi_23 : ¬ ((1 : Int32) < 0 ∨ cl_23.slots.size ≤ ((1 : Int32)).toNatClampNeg) := inb_of S_23 ⟨by decide, by decide⟩
  refine Win.go (fun _ k => X_20.laload hx (j := (1 : Int32)) (v := (.long u1)) (by rw [e_20]; exact Ar_23.1) (State.isArrayOf_alike hZ.alike Ar_23.2.1) Ar_23.2.2 hi_23 (H_23.at hi_23 rfl) (g := (mkF m 61 #[.val (.ref a), .val (.ref b), .val (.long t0), .second, .val (.int (0 : Int32)), .val (.int (1 : Int32)), .val (.long (0 : Int64)), .second] [(.int (1 : Int32)), (.ref a), (.long t0)])) rfl rfl (hb hby d3_61) _ k) ?_
  show Win p.tables e below _ (T_20.setTop (mkF m 62 #[.val (.ref a), .val (.ref b), .val (.long t0), .second, .val (.int (0 : Int32)), .val (.int (1 : Int32)), .val (.long (0 : Int64)), .second] [(.long u1), (.long t0)]))
  clear Ar_23 q_23 S_23 N_23 H_23 G_23 hi_23
  refine s_lload (pc' := 64) X_20.here hx (hb hby d3_62) rfl rfl ?_
  refine Win.go (fun _ k => X_20.ldc2Long hx hown (mvT hZ (hw _ (List.mem_of_getElem? (i := 14) rfl))) (g := (mkF m 64 #[.val (.ref a), .val (.ref b), .val (.long t0), .second, .val (.int (0 : Int32)), .val (.int (1 : Int32)), .val (.long (0 : Int64)), .second] [(.long (0 : Int64)), (.long u1), (.long t0)])) rfl (hb hby d3_64) _ k) ?_
  show Win p.tables e below _ (T_20.setTop (mkF m 67 #[.val (.ref a), .val (.ref b), .val (.long t0), .second, .val (.int (0 : Int32)), .val (.int (1 : Int32)), .val (.long (0 : Int64)), .second] [(.long (-1 : Int64)), (.long (0 : Int64)), (.long u1), (.long t0)]))
  refine Win.go (fun _ k => XS.lxor X_20.here hx rfl (hb hby d3_67) rfl k) ?_
  show Win p.tables e below _ (T_20.setTop (mkF m 68 #[.val (.ref a), .val (.ref b), .val (.long t0), .second, .val (.int (0 : Int32)), .val (.int (1 : Int32)), .val (.long (0 : Int64)), .second] [(.long (-1 : Int64)), (.long u1), (.long t0)]))
  refine s_land (pc' := 69) X_20.here hx (hb hby d3_68) rfl ?_
  refine s_lor (pc' := 70) X_20.here hx (hb hby d3_69) rfl ?_
  refine s_lstoreN (pc' := 71) (l' := #[.val (.ref a), .val (.ref b), .val (.long (t0 ||| (u1 &&& (-1 : Int64)))), .second, .val (.int (0 : Int32)), .val (.int (1 : Int32)), .val (.long (0 : Int64)), .second]) X_20.here hx (hb hby d3_70) rfl rfl ?_
  generalize ht1 : (t0 ||| (u1 &&& (-1 : Int64))) = t1
  show Win p.tables e below _ (T_20.setTop (mkF m 71 #[.val (.ref a), .val (.ref b), .val (.long t1), .second, .val (.int (0 : Int32)), .val (.int (1 : Int32)), .val (.long (0 : Int64)), .second] []))
  refine s_aloadN (pc' := 72) X_20.here hx (hb hby d3_71) rfl rfl rfl ?_
  refine s_iload (pc' := 74) X_20.here hx (hb hby d3_72) rfl rfl ?_
  refine Win.go (fun _ k => XT.dup2 X_20.here hx rfl (hb hby d3_74) rfl rfl rfl k) ?_
  show Win p.tables e below _ (T_20.setTop (mkF m 75 #[.val (.ref a), .val (.ref b), .val (.long t1), .second, .val (.int (0 : Int32)), .val (.int (1 : Int32)), .val (.long (0 : Int64)), .second] [(.int (1 : Int32)), (.ref a), (.int (1 : Int32)), (.ref a)]))
  obtain ⟨cl_24, Ar_24, q_24, S_24, N_24, H_24, G_24⟩ := id V_a
  have hi_24 : ¬ ((1 : Int32) < 0 ∨ cl_24.slots.size ≤ ((1 : Int32)).toNatClampNeg) := inb_of S_24 ⟨by decide, by decide⟩
  refine Win.go (fun _ k => X_20.laload hx (j := (1 : Int32)) (v := (.long u1)) (by rw [e_20]; exact Ar_24.1) (State.isArrayOf_alike hZ.alike Ar_24.2.1) Ar_24.2.2 hi_24 (H_24.at hi_24 rfl) (g := (mkF m 75 #[.val (.ref a), .val (.ref b), .val (.long t1), .second, .val (.int (0 : Int32)), .val (.int (1 : Int32)), .val (.long (0 : Int64)), .second] [(.int (1 : Int32)), (.ref a), (.int (1 : Int32)), (.ref a)])) rfl rfl (hb hby d3_75) _ k) ?_
  show Win p.tables e below _ (T_20.setTop (mkF m 76 #[.val (.ref a), .val (.ref b), .val (.long t1), .second, .val (.int (0 : Int32)), .val (.int (1 : Int32)), .val (.long (0 : Int64)), .second] [(.long u1), (.int (1 : Int32)), (.ref a)]))
  clear Ar_24 q_24 S_24 N_24 H_24 G_24 hi_24
  refine s_lload (pc' := 78) X_20.here hx (hb hby d3_76) rfl rfl ?_
  refine s_land (pc' := 79) X_20.here hx (hb hby d3_78) rfl ?_
  obtain ⟨cl_25, Ar_25, q_25, S_25, N_25, H_25, G_25⟩ := V_a
  obtain ⟨T_25, h_25, X_25, e_25, W_25, st_25⟩ := stJ X_20 hx hZ e_20 Ar_25 (j := (1 : Int32)) (inb_of S_25 ⟨by decide, by decide⟩) (g := (mkF m 79 #[.val (.ref a), .val (.ref b), .val (.long t1), .second, .val (.int (0 : Int32)), .val (.int (1 : Int32)), .val (.long (0 : Int64)), .second] [(.long (u1 &&& (0 : Int64))), (.int (1 : Int32)), (.ref a)])) rfl rfl (hb hby d3_79)
  have V_25 := Arv.set Ar_25 q_25 S_25 N_25 H_25 G_25 rfl W_25 1 rfl (Nat.le_of_ble_eq_true rfl)
  replace V_b := V_b.other W_25 ne_b_a
  replace lt_a := Nat.lt_of_lt_of_le lt_a (Keep.of_wr W_25).1
  replace lt_b := Nat.lt_of_lt_of_le lt_b (Keep.of_wr W_25).1
  replace Zs := Nat.le_trans Zs (Keep.of_wr W_25).1
  replace Kp := Kp.wr W_25 (Or.inl (by simp))
  replace V_a : Arv Z h_25 a ka .long (2 : Int32) [(.long (u0 &&& (0 : Int64))), (.long (u1 &&& (0 : Int64)))] (.long (0 : Int64)) := V_25
  replace Nf := Fr.snoc X_25 Nf g_a
  refine Win.go st_25 ?_
  clear st_25 W_25 V_25 Ar_25 q_25 S_25 N_25 H_25 G_25 X_20 e_20
  show Win p.tables e below _ (T_25.setTop (mkF m 80 #[.val (.ref a), .val (.ref b), .val (.long t1), .second, .val (.int (0 : Int32)), .val (.int (1 : Int32)), .val (.long (0 : Int64)), .second] []))
  refine Win.go (fun _ k => XS.iinc X_25.here hx rfl (hb hby d3_80) rfl (l' := #[.val (.ref a), .val (.ref b), .val (.long t1), .second, .val (.int (0 : Int32)), .val (.int (2 : Int32)), .val (.long (0 : Int64)), .second]) rfl k) ?_
  show Win p.tables e below _ (T_25.setTop (mkF m 83 #[.val (.ref a), .val (.ref b), .val (.long t1), .second, .val (.int (0 : Int32)), .val (.int (2 : Int32)), .val (.long (0 : Int64)), .second] []))
  refine s_goto (pc' := 8) X_25.here hx (hb hby d3_83) (by decide) (by decide) ?_
  refine s_iload (pc' := 10) X_25.here hx (hb hby d3_8) rfl rfl ?_
  refine s_aloadN (pc' := 11) X_25.here hx (hb hby d3_10) rfl rfl rfl ?_
  obtain ⟨cl_26, Ar_26, q_26, S_26, N_26, H_26, G_26⟩ := id V_a
  refine Win.go (fun _ k => X_25.arraylength hx (by rw [e_25]; exact Ar_26.1) (State.isArrayOf_alike hZ.alike Ar_26.2.1) (g := (mkF m 11 #[.val (.ref a), .val (.ref b), .val (.long t1), .second, .val (.int (0 : Int32)), .val (.int (2 : Int32)), .val (.long (0 : Int64)), .second] [(.ref a), (.int (2 : Int32))])) rfl rfl (hb hby d3_11) _ k) ?_
  rw [len_of S_26 N_26]
  clear Ar_26 q_26 S_26 N_26 H_26 G_26
  show Win p.tables e below _ (T_25.setTop (mkF m 12 #[.val (.ref a), .val (.ref b), .val (.long t1), .second, .val (.int (0 : Int32)), .val (.int (2 : Int32)), .val (.long (0 : Int64)), .second] [(.int (2 : Int32)), (.int (2 : Int32))]))
  refine s_icmpYes (pc' := 86) X_25.here hx (hb hby d3_12) (fltI (x := (2 : Int32)) (y := (2 : Int32)) (by decide)).2.1 (by decide) (by decide) ?_
  refine s_lloadN (pc' := 87) X_25.here hx (hb hby d3_86) rfl rfl ?_
  refine s_lconst (pc' := 88) (z := (0 : Int64)) X_25.here hx (hb hby d3_87) rfl rfl ?_
  refine s_lcmp (pc' := 89) X_25.here hx (hb hby d3_88) rfl ?_
  by_cases hc89_0 : (t1).toInt = (0 : Int)
  · skip
    refine s_ifYes (pc' := 96) X_25.here hx (hb hby d3_89) (teqL (x := t1) (y := (0 : Int64)) hc89_0).1 (by decide) (by decide) ?_
    refine s_iconst (pc' := 97) (z := (0 : Int32)) X_25.here hx (hb hby d3_96) rfl rfl ?_
    refine winN X_25 hx hlk e_25 (t := .boolean) Bd.returns (by simp) (hb hby d3_97) (by decide) (by decide) (z' := (0 : Int32)) rfl ?_
    have mA : ((((0 : Int64) ||| (0 : Int64)) ||| (0 : Int64)) ||| (0 : Int64)) = (0 : Int64) := by simp only [Int64.or_zero, Int64.zero_or]
    have mB : ((((0 : Int64) ||| (0 : Int64)) ||| (0 : Int64)) ||| (0 : Int64)) = (0 : Int64) := by simp only [Int64.or_zero, Int64.zero_or]
    have tt : (((0 : Int64) ||| (u0 &&& (((((0 : Int64) ||| (0 : Int64)) ||| (0 : Int64)) ||| (0 : Int64)) ^^^ (-1 : Int64)))) ||| (u1 &&& (((((0 : Int64) ||| (0 : Int64)) ||| (0 : Int64)) ||| (0 : Int64)) ^^^ (-1 : Int64)))) = t1 := by rw [mA, show ((0 : Int64) ^^^ (-1 : Int64)) = -1 from by decide, ht0, ht1]
    refine ⟨Nf, Kp, by rw [mA]; exact V_a, _, rfl, Or.inr ⟨rfl, ?_⟩⟩
    rw [tt]
    exact fun q => q hc89_0
  · skip
    refine s_ifNo (pc' := 92) X_25.here hx (hb hby d3_89) rfl (feqL (x := t1) (y := (0 : Int64)) hc89_0).1 ?_
    refine s_iconst (pc' := 93) (z := (1 : Int32)) X_25.here hx (hb hby d3_92) rfl rfl ?_
    refine s_goto (pc' := 97) X_25.here hx (hb hby d3_93) (by decide) (by decide) ?_
    refine winN X_25 hx hlk e_25 (t := .boolean) Bd.returns (by simp) (hb hby d3_97) (by decide) (by decide) (z' := (1 : Int32)) rfl ?_
    have mA : ((((0 : Int64) ||| (0 : Int64)) ||| (0 : Int64)) ||| (0 : Int64)) = (0 : Int64) := by simp only [Int64.or_zero, Int64.zero_or]
    have mB : ((((0 : Int64) ||| (0 : Int64)) ||| (0 : Int64)) ||| (0 : Int64)) = (0 : Int64) := by simp only [Int64.or_zero, Int64.zero_or]
    have tt : (((0 : Int64) ||| (u0 &&& (((((0 : Int64) ||| (0 : Int64)) ||| (0 : Int64)) ||| (0 : Int64)) ^^^ (-1 : Int64)))) ||| (u1 &&& (((((0 : Int64) ||| (0 : Int64)) ||| (0 : Int64)) ||| (0 : Int64)) ^^^ (-1 : Int64)))) = t1 := by rw [mA, show ((0 : Int64) ^^^ (-1 : Int64)) = -1 from by decide, ht0, ht1]
    refine ⟨Nf, Kp, by rw [mA]; exact V_a, _, rfl, Or.inl ⟨rfl, ?_⟩⟩
    rw [tt]
    exact hc89_0
theorem d3_25 : decode prog_2_method_8_code 25 = .ok (.aload_n 1, 1) := by decide +kernel
theorem d3_26 : decode prog_2_method_8_code 26 = .ok (.iload 4, 2) := by decide +kernel
theorem d3_28 : decode prog_2_method_8_code 28 = .ok (.iaload, 1) := by decide +kernel
theorem d3_29 : decode prog_2_method_8_code 29 = .ok (.bipush 64, 2) := by decide +kernel
theorem d3_31 : decode prog_2_method_8_code 31 = .ok (.idiv, 1) := by decide +kernel
theorem d3_32 : decode prog_2_method_8_code 32 = .ok (.iload 5, 2) := by decide +kernel
theorem d3_34 : decode prog_2_method_8_code 34 = .ok (.if_icmp .ne 23, 3) := by decide +kernel
theorem d3_37 : decode prog_2_method_8_code 37 = .ok (.lload 6, 2) := by decide +kernel
theorem d3_39 : decode prog_2_method_8_code 39 = .ok (.lconst 1, 1) := by decide +kernel
theorem d3_40 : decode prog_2_method_8_code 40 = .ok (.aload_n 1, 1) := by decide +kernel
theorem d3_41 : decode prog_2_method_8_code 41 = .ok (.iload 4, 2) := by decide +kernel
theorem d3_43 : decode prog_2_method_8_code 43 = .ok (.iaload, 1) := by decide +kernel
theorem d3_44 : decode prog_2_method_8_code 44 = .ok (.bipush 64, 2) := by decide +kernel
theorem d3_46 : decode prog_2_method_8_code 46 = .ok (.irem, 1) := by decide +kernel
theorem d3_47 : decode prog_2_method_8_code 47 = .ok (.lshl, 1) := by decide +kernel
theorem d3_48 : decode prog_2_method_8_code 48 = .ok (.lor, 1) := by decide +kernel
theorem d3_49 : decode prog_2_method_8_code 49 = .ok (.lstore 6, 2) := by decide +kernel
theorem d3_51 : decode prog_2_method_8_code 51 = .ok (.iinc 4 1, 3) := by decide +kernel
theorem d3_54 : decode prog_2_method_8_code 54 = .ok (.goto (-36), 3) := by decide +kernel
theorem ef_3_1 (m : MethodId) (a : Addr) (b : Addr) : entryFrame m #[(.ref a), (.ref b)] 8 = mkF m 0 #[.val (.ref a), .val (.ref b), .unset, .unset, .unset, .unset, .unset, .unset] [] := by first | (simp [entryFrame, mkF, argsToLocals, Value.category]; done) | rfl
def Q3_1 (Z : State) (a : Addr) (b : Addr) (ka : ClassId) (u0 : Int64) (u1 : Int64) (kb : ClassId) (v0 : Int32) (h0 : Heap) (n0 : Nat) (v : Option Value) (h : Heap) (L : List Loc) : Prop := Fr n0 L ∧ Keep h0 h [a] ∧ Arv Z h a ka .long (2 : Int32) [(.long (u0 &&& ((((bit0 v0) ||| (0 : Int64)) ||| (0 : Int64)) ||| (0 : Int64)))), (.long (u1 &&& ((((bit1 v0) ||| (0 : Int64)) ||| (0 : Int64)) ||| (0 : Int64))))] (.long (0 : Int64)) ∧ (∃ z : Int32, v = some (.int z) ∧ ((z.toInt = 1 ∧ (¬ ((((0 : Int64) ||| (u0 &&& (((((bit0 v0) ||| (0 : Int64)) ||| (0 : Int64)) ||| (0 : Int64)) ^^^ (-1 : Int64)))) ||| (u1 &&& (((((bit1 v0) ||| (0 : Int64)) ||| (0 : Int64)) ||| (0 : Int64)) ^^^ (-1 : Int64))))).toInt = 0)) ∨ (z.toInt = 0 ∧ ¬ (¬ ((((0 : Int64) ||| (u0 &&& (((((bit0 v0) ||| (0 : Int64)) ||| (0 : Int64)) ||| (0 : Int64)) ^^^ (-1 : Int64)))) ||| (u1 &&& (((((bit1 v0) ||| (0 : Int64)) ||| (0 : Int64)) ||| (0 : Int64)) ^^^ (-1 : Int64))))).toInt = 0))))
set_option maxRecDepth 65536 in
set_option maxHeartbeats 40000000 in
theorem rm3_1 (l : Launch) (Z : State) (a0 : Array Value) (hw : ∀ d ∈ tables_1, d.before a0 Z = true) (ws : List Jvm.Cond) (a : Addr) (b : Addr) (ka : ClassId) (u0 : Int64) (u1 : Int64) (kb : ClassId) (v0 : Int32) (h0 : Heap) (n0 : Nat) (Zs : n0 ≤ h0.size) (V_a : Arv Z h0 a ka .long (2 : Int32) [(.long u0), (.long u1)] (.long (0 : Int64))) (V_b : Arv Z h0 b kb .int (1 : Int32) [(.int v0)] (.int (0 : Int32))) (g_a : n0 ≤ a) (ne_b_a : b ≠ a) (hv : 0 ≤ v0.toInt ∧ v0.toInt < 128) :
    MetFree l (⟨"com/example/faithful_deputy/faithfuldeputy/Bits", "keepOnly", "([J[I)Z"⟩ : MethodName) (head1 (Jvm.Cond.code (⟨"com/example/faithful_deputy/faithfuldeputy/Bits", "keepOnly", "([J[I)Z"⟩ : MethodName) prog_2_method_8_code 8 (some .boolean) :: ws) ({ frames := 0, cells := 0, slots := 0, locals := 0 } : Room)) (fun as' U => as' = #[(.ref a), (.ref b)] ∧ Z.Warmed39 U.vm ∧ U.heap = h0) (fun _ _ _ _ _ => True) (fun _ U o U' => ∃ v L, o = .returned v ∧ Q3_1 Z a b ka u0 u1 kb v0 h0 n0 v U'.heap L ∧ FrameEnd U o U' L ({ frames := 0, cells := 0, slots := 0, locals := 0 } : Room).cells ({ frames := 0, cells := 0, slots := 0, locals := 0 } : Room).slots) := by
  refine MetFree.of_bodySF (plainFor_of_name pn_3) hisR ?_
  intro p e s m args below meth c s₁ Bd hml0 hP hK
  obtain ⟨rfl, hZ, hh⟩ := hP
  have hx := Bd.exec
  have hby := Bd.bytes
  have hml : c.maxLocals = 8 := hml0
  have hown : s.vm.findClass "com/example/faithful_deputy/faithfuldeputy/Bits" = some m.cls := findClass_of_methodNamed Bd.named
  have hnm := (name_of_methodNamed Bd.named Bd.method).1
  have hlk : meth.locks = false := Bd.notSynchronized
  have X0 : Stand p l e ({ frames := 0, cells := 0, slots := 0, locals := 0 } : Room) s m #[(.ref a), (.ref b)] below meth c s₁ [] 0 0 := Stand.of_body Bd
  have e0 : s₁.heap = h0 := by rw [← hh, Bd.state]; rfl
  have Nf := Fr.nil n0
  refine (?_ : Win p.tables e below (PostQ s (Q3_1 Z a b ka u0 u1 kb v0 h0 n0) ({ frames := 0, cells := 0, slots := 0, locals := 0 } : Room).cells ({ frames := 0, cells := 0, slots := 0, locals := 0 } : Room).slots) (s₁.setTop (entryFrame m #[(.ref a), (.ref b)] 8)))
  rw [ef_3_1]
  have Kp : Keep h0 h0 [a] := Keep.refl h0 _
  have lt_a : a < h0.size := V_a.lt
  have lt_b : b < h0.size := V_b.lt
  have d0 := own_d (v := v0) (by omega)
  show Win p.tables e below _ (s₁.setTop (mkF m 0 #[.val (.ref a), .val (.ref b), .unset, .unset, .unset, .unset, .unset, .unset] []))
  refine s_lconst (pc' := 1) (z := (0 : Int64)) X0.here hx (hb hby d3_0) rfl rfl ?_
  refine s_lstoreN (pc' := 2) (l' := #[.val (.ref a), .val (.ref b), .val (.long (0 : Int64)), .second, .unset, .unset, .unset, .unset]) X0.here hx (hb hby d3_1) rfl rfl ?_
  refine s_iconst (pc' := 3) (z := (0 : Int32)) X0.here hx (hb hby d3_2) rfl rfl ?_
  refine s_istore (pc' := 5) (l' := #[.val (.ref a), .val (.ref b), .val (.long (0 : Int64)), .second, .val (.int (0 : Int32)), .unset, .unset, .unset]) X0.here hx (hb hby d3_3) rfl rfl ?_
  refine s_iconst (pc' := 6) (z := (0 : Int32)) X0.here hx (hb hby d3_5) rfl rfl ?_
  refine s_istore (pc' := 8) (l' := #[.val (.ref a), .val (.ref b), .val (.long (0 : Int64)), .second, .val (.int (0 : Int32)), .val (.int (0 : Int32)), .unset, .unset]) X0.here hx (hb hby d3_6) rfl rfl ?_
  refine s_iload (pc' := 10) X0.here hx (hb hby d3_8) rfl rfl ?_
  refine s_aloadN (pc' := 11) X0.here hx (hb hby d3_10) rfl rfl rfl ?_
  obtain ⟨cl_27, Ar_27, q_27, S_27, N_27, H_27, G_27⟩ := id V_a
  refine Win.go (fun _ k => X0.arraylength hx (by rw [e0]; exact Ar_27.1) (State.isArrayOf_alike hZ.alike Ar_27.2.1) (g := (mkF m 11 #[.val (.ref a), .val (.ref b), .val (.long (0 : Int64)), .second, .val (.int (0 : Int32)), .val (.int (0 : Int32)), .unset, .unset] [(.ref a), (.int (0 : Int32))])) rfl rfl (hb hby d3_11) _ k) ?_
  rw [len_of S_27 N_27]
  clear Ar_27 q_27 S_27 N_27 H_27 G_27
  show Win p.tables e below _ (s₁.setTop (mkF m 12 #[.val (.ref a), .val (.ref b), .val (.long (0 : Int64)), .second, .val (.int (0 : Int32)), .val (.int (0 : Int32)), .unset, .unset] [(.int (2 : Int32)), (.int (0 : Int32))]))
  refine s_icmpNo (pc' := 15) X0.here hx (hb hby d3_12) rfl (tltI (x := (0 : Int32)) (y := (2 : Int32)) (by decide)).2.1 ?_
  refine s_lconst (pc' := 16) (z := (0 : Int64)) X0.here hx (hb hby d3_15) rfl rfl ?_
  refine s_lstore (pc' := 18) (l' := #[.val (.ref a), .val (.ref b), .val (.long (0 : Int64)), .second, .val (.int (0 : Int32)), .val (.int (0 : Int32)), .val (.long (0 : Int64)), .second]) X0.here hx (hb hby d3_16) rfl rfl ?_
  refine s_iload (pc' := 20) X0.here hx (hb hby d3_18) rfl rfl ?_
  refine s_aloadN (pc' := 21) X0.here hx (hb hby d3_20) rfl rfl rfl ?_
  obtain ⟨cl_28, Ar_28, q_28, S_28, N_28, H_28, G_28⟩ := id V_b
  refine Win.go (fun _ k => X0.arraylength hx (by rw [e0]; exact Ar_28.1) (State.isArrayOf_alike hZ.alike Ar_28.2.1) (g := (mkF m 21 #[.val (.ref a), .val (.ref b), .val (.long (0 : Int64)), .second, .val (.int (0 : Int32)), .val (.int (0 : Int32)), .val (.long (0 : Int64)), .second] [(.ref b), (.int (0 : Int32))])) rfl rfl (hb hby d3_21) _ k) ?_
  rw [len_of S_28 N_28]
  clear Ar_28 q_28 S_28 N_28 H_28 G_28
  show Win p.tables e below _ (s₁.setTop (mkF m 22 #[.val (.ref a), .val (.ref b), .val (.long (0 : Int64)), .second, .val (.int (0 : Int32)), .val (.int (0 : Int32)), .val (.long (0 : Int64)), .second] [(.int (1 : Int32)), (.int (0 : Int32))]))
  refine s_icmpNo (pc' := 25) X0.here hx (hb hby d3_22) rfl (tltI (x := (0 : Int32)) (y := (1 : Int32)) (by decide)).2.1 ?_
  refine s_aloadN (pc' := 26) X0.here hx (hb hby d3_25) rfl rfl rfl ?_
  refine s_iload (pc' := 28) X0.here hx (hb hby d3_26) rfl rfl ?_
  obtain ⟨cl_29, Ar_29, q_29, S_29, N_29, H_29, G_29⟩ := id V_b
  have hi_29 : ¬ ((0 : Int32) < 0 ∨ cl_29.slots.size ≤ ((0 : Int32)).toNatClampNeg) := inb_of S_29 ⟨by decide, by decide⟩
  refine Win.go (fun _ k => X0.iaload hx (j := (0 : Int32)) (v := (.int v0)) (by rw [e0]; exact Ar_29.1) (State.isArrayOf_alike hZ.alike Ar_29.2.1) Ar_29.2.2 hi_29 (H_29.at hi_29 rfl) (g := (mkF m 28 #[.val (.ref a), .val (.ref b), .val (.long (0 : Int64)), .second, .val (.int (0 : Int32)), .val (.int (0 : Int32)), .val (.long (0 : Int64)), .second] [(.int (0 : Int32)), (.ref b)])) rfl rfl (hb hby d3_28) _ k) ?_
  show Win p.tables e below _ (s₁.setTop (mkF m 29 #[.val (.ref a), .val (.ref b), .val (.long (0 : Int64)), .second, .val (.int (0 : Int32)), .val (.int (0 : Int32)), .val (.long (0 : Int64)), .second] [(.int v0)]))
  clear Ar_29 q_29 S_29 N_29 H_29 G_29 hi_29
  refine s_bipush (pc' := 31) (z := (64 : Int32)) X0.here hx (hb hby d3_29) rfl rfl ?_
  refine Win.go (fun _ k => XS.idiv X0.here hx rfl (hb hby d3_31) rfl (by decide) k) ?_
  show Win p.tables e below _ (s₁.setTop (mkF m 32 #[.val (.ref a), .val (.ref b), .val (.long (0 : Int64)), .second, .val (.int (0 : Int32)), .val (.int (0 : Int32)), .val (.long (0 : Int64)), .second] [(.int (v0 / (64 : Int32)))]))
  refine s_iload (pc' := 34) X0.here hx (hb hby d3_32) rfl rfl ?_
  by_cases hc34_0 : ((v0 / (64 : Int32))).toInt = (0 : Int)
  · skip
    refine s_icmpNo (pc' := 37) X0.here hx (hb hby d3_34) rfl (teqI (x := (v0 / (64 : Int32))) (y := (0 : Int32)) hc34_0).2 ?_
    refine s_lload (pc' := 39) X0.here hx (hb hby d3_37) rfl rfl ?_
    refine s_lconst (pc' := 40) (z := (1 : Int64)) X0.here hx (hb hby d3_39) rfl rfl ?_
    refine s_aloadN (pc' := 41) X0.here hx (hb hby d3_40) rfl rfl rfl ?_
    refine s_iload (pc' := 43) X0.here hx (hb hby d3_41) rfl rfl ?_
    obtain ⟨cl_30, Ar_30, q_30, S_30, N_30, H_30, G_30⟩ := id V_b
    have hi_30 : ¬ ((0 : Int32) < 0 ∨ cl_30.slots.size ≤ ((0 : Int32)).toNatClampNeg) := inb_of S_30 ⟨by decide, by decide⟩
    refine Win.go (fun _ k => X0.iaload hx (j := (0 : Int32)) (v := (.int v0)) (by rw [e0]; exact Ar_30.1) (State.isArrayOf_alike hZ.alike Ar_30.2.1) Ar_30.2.2 hi_30 (H_30.at hi_30 rfl) (g := (mkF m 43 #[.val (.ref a), .val (.ref b), .val (.long (0 : Int64)), .second, .val (.int (0 : Int32)), .val (.int (0 : Int32)), .val (.long (0 : Int64)), .second] [(.int (0 : Int32)), (.ref b), (.long (1 : Int64)), (.long (0 : Int64))])) rfl rfl (hb hby d3_43) _ k) ?_
    show Win p.tables e below _ (s₁.setTop (mkF m 44 #[.val (.ref a), .val (.ref b), .val (.long (0 : Int64)), .second, .val (.int (0 : Int32)), .val (.int (0 : Int32)), .val (.long (0 : Int64)), .second] [(.int v0), (.long (1 : Int64)), (.long (0 : Int64))]))
    clear Ar_30 q_30 S_30 N_30 H_30 G_30 hi_30
    refine s_bipush (pc' := 46) (z := (64 : Int32)) X0.here hx (hb hby d3_44) rfl rfl ?_
    refine Win.go (fun _ k => iremM X0 hx rfl (hb hby d3_46) rfl (by decide) k) ?_
    show Win p.tables e below _ (s₁.setTop (mkF m 47 #[.val (.ref a), .val (.ref b), .val (.long (0 : Int64)), .second, .val (.int (0 : Int32)), .val (.int (0 : Int32)), .val (.long (0 : Int64)), .second] [(.int (v0 % (64 : Int32))), (.long (1 : Int64)), (.long (0 : Int64))]))
    refine Win.go (fun _ k => XT.lshl X0.here hx rfl (hb hby d3_47) rfl k) ?_
    show Win p.tables e below _ (s₁.setTop (mkF m 48 #[.val (.ref a), .val (.ref b), .val (.long (0 : Int64)), .second, .val (.int (0 : Int32)), .val (.int (0 : Int32)), .val (.long (0 : Int64)), .second] [(.long ((1 : Int64) <<< ((v0 % (64 : Int32)).toInt64 &&& 63))), (.long (0 : Int64))]))
    refine s_lor (pc' := 49) X0.here hx (hb hby d3_48) rfl ?_
    refine s_lstore (pc' := 51) (l' := #[.val (.ref a), .val (.ref b), .val (.long (0 : Int64)), .second, .val (.int (0 : Int32)), .val (.int (0 : Int32)), .val (.long ((0 : Int64) ||| ((1 : Int64) <<< ((v0 % (64 : Int32)).toInt64 &&& 63)))), .second]) X0.here hx (hb hby d3_49) rfl rfl ?_
    generalize hmk0_0 : ((0 : Int64) ||| ((1 : Int64) <<< ((v0 % (64 : Int32)).toInt64 &&& 63))) = mk0_0
    show Win p.tables e below _ (s₁.setTop (mkF m 51 #[.val (.ref a), .val (.ref b), .val (.long (0 : Int64)), .second, .val (.int (0 : Int32)), .val (.int (0 : Int32)), .val (.long mk0_0), .second] []))
    refine Win.go (fun _ k => XS.iinc X0.here hx rfl (hb hby d3_51) rfl (l' := #[.val (.ref a), .val (.ref b), .val (.long (0 : Int64)), .second, .val (.int (1 : Int32)), .val (.int (0 : Int32)), .val (.long mk0_0), .second]) rfl k) ?_
    show Win p.tables e below _ (s₁.setTop (mkF m 54 #[.val (.ref a), .val (.ref b), .val (.long (0 : Int64)), .second, .val (.int (1 : Int32)), .val (.int (0 : Int32)), .val (.long mk0_0), .second] []))
    refine s_goto (pc' := 18) X0.here hx (hb hby d3_54) (by decide) (by decide) ?_
    refine s_iload (pc' := 20) X0.here hx (hb hby d3_18) rfl rfl ?_
    refine s_aloadN (pc' := 21) X0.here hx (hb hby d3_20) rfl rfl rfl ?_
    obtain ⟨cl_31, Ar_31, q_31, S_31, N_31, H_31, G_31⟩ := id V_b
    refine Win.go (fun _ k => X0.arraylength hx (by rw [e0]; exact Ar_31.1) (State.isArrayOf_alike hZ.alike Ar_31.2.1) (g := (mkF m 21 #[.val (.ref a), .val (.ref b), .val (.long (0 : Int64)), .second, .val (.int (1 : Int32)), .val (.int (0 : Int32)), .val (.long mk0_0), .second] [(.ref b), (.int (1 : Int32))])) rfl rfl (hb hby d3_21) _ k) ?_
    rw [len_of S_31 N_31]
    clear Ar_31 q_31 S_31 N_31 H_31 G_31
    show Win p.tables e below _ (s₁.setTop (mkF m 22 #[.val (.ref a), .val (.ref b), .val (.long (0 : Int64)), .second, .val (.int (1 : Int32)), .val (.int (0 : Int32)), .val (.long mk0_0), .second] [(.int (1 : Int32)), (.int (1 : Int32))]))
    refine s_icmpYes (pc' := 57) X0.here hx (hb hby d3_22) (fltI (x := (1 : Int32)) (y := (1 : Int32)) (by decide)).2.1 (by decide) (by decide) ?_
    refine s_lloadN (pc' := 58) X0.here hx (hb hby d3_57) rfl rfl ?_
    refine s_aloadN (pc' := 59) X0.here hx (hb hby d3_58) rfl rfl rfl ?_
    refine s_iload (pc' := 61) X0.here hx (hb hby d3_59) rfl rfl ?_
    obtain ⟨cl_32, Ar_32, q_32, S_32, N_32, H_32, G_32⟩ := id V_a
    have hi_32 : ¬ ((0 : Int32) < 0 ∨ cl_32.slots.size ≤ ((0 : Int32)).toNatClampNeg) := inb_of S_32 ⟨by decide, by decide⟩
    refine Win.go (fun _ k => X0.laload hx (j := (0 : Int32)) (v := (.long u0)) (by rw [e0]; exact Ar_32.1) (State.isArrayOf_alike hZ.alike Ar_32.2.1) Ar_32.2.2 hi_32 (H_32.at hi_32 rfl) (g := (mkF m 61 #[.val (.ref a), .val (.ref b), .val (.long (0 : Int64)), .second, .val (.int (1 : Int32)), .val (.int (0 : Int32)), .val (.long mk0_0), .second] [(.int (0 : Int32)), (.ref a), (.long (0 : Int64))])) rfl rfl (hb hby d3_61) _ k) ?_
    show Win p.tables e below _ (s₁.setTop (mkF m 62 #[.val (.ref a), .val (.ref b), .val (.long (0 : Int64)), .second, .val (.int (1 : Int32)), .val (.int (0 : Int32)), .val (.long mk0_0), .second] [(.long u0), (.long (0 : Int64))]))
    clear Ar_32 q_32 S_32 N_32 H_32 G_32 hi_32
    refine s_lload (pc' := 64) X0.here hx (hb hby d3_62) rfl rfl ?_
    refine Win.go (fun _ k => X0.ldc2Long hx hown (mvT hZ (hw _ (List.mem_of_getElem? (i := 14) rfl))) (g := (mkF m 64 #[.val (.ref a), .val (.ref b), .val (.long (0 : Int64)), .second, .val (.int (1 : Int32)), .val (.int (0 : Int32)), .val (.long mk0_0), .second] [(.long mk0_0), (.long u0), (.long (0 : Int64))])) rfl (hb hby d3_64) _ k) ?_
    show Win p.tables e below _ (s₁.setTop (mkF m 67 #[.val (.ref a), .val (.ref b), .val (.long (0 : Int64)), .second, .val (.int (1 : Int32)), .val (.int (0 : Int32)), .val (.long mk0_0), .second] [(.long (-1 : Int64)), (.long mk0_0), (.long u0), (.long (0 : Int64))]))
    refine s_lxor (pc' := 68) X0.here hx (hb hby d3_67) rfl ?_
    refine s_land (pc' := 69) X0.here hx (hb hby d3_68) rfl ?_
    refine s_lor (pc' := 70) X0.here hx (hb hby d3_69) rfl ?_
    refine s_lstoreN (pc' := 71) (l' := #[.val (.ref a), .val (.ref b), .val (.long ((0 : Int64) ||| (u0 &&& (mk0_0 ^^^ (-1 : Int64))))), .second, .val (.int (1 : Int32)), .val (.int (0 : Int32)), .val (.long mk0_0), .second]) X0.here hx (hb hby d3_70) rfl rfl ?_
    generalize ht0 : ((0 : Int64) ||| (u0 &&& (mk0_0 ^^^ (-1 : Int64)))) = t0
    show Win p.tables e below _ (s₁.setTop (mkF m 71 #[.val (.ref a), .val (.ref b), .val (.long t0), .second, .val (.int (1 : Int32)), .val (.int (0 : Int32)), .val (.long mk0_0), .second] []))
    refine s_aloadN (pc' := 72) X0.here hx (hb hby d3_71) rfl rfl rfl ?_
    refine s_iload (pc' := 74) X0.here hx (hb hby d3_72) rfl rfl ?_
    refine Win.go (fun _ k => XT.dup2 X0.here hx rfl (hb hby d3_74) rfl rfl rfl k) ?_
    show Win p.tables e below _ (s₁.setTop (mkF m 75 #[.val (.ref a), .val (.ref b), .val (.long t0), .second, .val (.int (1 : Int32)), .val (.int (0 : Int32)), .val (.long mk0_0), .second] [(.int (0 : Int32)), (.ref a), (.int (0 : Int32)), (.ref a)]))
    obtain ⟨cl_33, Ar_33, q_33, S_33, N_33, H_33, G_33⟩ := id V_a
    have hi_33 : ¬ ((0 : Int32) < 0 ∨ cl_33.slots.size ≤ ((0 : Int32)).toNatClampNeg) := inb_of S_33 ⟨by decide, by decide⟩
    refine Win.go (fun _ k => X0.laload hx (j := (0 : Int32)) (v := (.long u0)) (by rw [e0]; exact Ar_33.1) (State.isArrayOf_alike hZ.alike Ar_33.2.1) Ar_33.2.2 hi_33 (H_33.at hi_33 rfl) (g := (mkF m 75 #[.val (.ref a), .val (.ref b), .val (.long t0), .second, .val (.int (1 : Int32)), .val (.int (0 : Int32)), .val (.long mk0_0), .second] [(.int (0 : Int32)), (.ref a), (.int (0 : Int32)), (.ref a)])) rfl rfl (hb hby d3_75) _ k) ?_
    show Win p.tables e below _ (s₁.setTop (mkF m 76 #[.val (.ref a), .val (.ref b), .val (.long t0), .second, .val (.int (1 : Int32)), .val (.int (0 : Int32)), .val (.long mk0_0), .second] [(.long u0), (.int (0 : Int32)), (.ref a)]))
    clear Ar_33 q_33 S_33 N_33 H_33 G_33 hi_33
    refine s_lload (pc' := 78) X0.here hx (hb hby d3_76) rfl rfl ?_
    refine s_land (pc' := 79) X0.here hx (hb hby d3_78) rfl ?_
    obtain ⟨cl_34, Ar_34, q_34, S_34, N_34, H_34, G_34⟩ := V_a
    obtain ⟨T_34, h_34, X_34, e_34, W_34, st_34⟩ := stJ X0 hx hZ e0 Ar_34 (j := (0 : Int32)) (inb_of S_34 ⟨by decide, by decide⟩) (g := (mkF m 79 #[.val (.ref a), .val (.ref b), .val (.long t0), .second, .val (.int (1 : Int32)), .val (.int (0 : Int32)), .val (.long mk0_0), .second] [(.long (u0 &&& mk0_0)), (.int (0 : Int32)), (.ref a)])) rfl rfl (hb hby d3_79)
    have V_34 := Arv.set Ar_34 q_34 S_34 N_34 H_34 G_34 rfl W_34 0 rfl (Nat.le_of_ble_eq_true rfl)
    replace V_b := V_b.other W_34 ne_b_a
    replace lt_a := Nat.lt_of_lt_of_le lt_a (Keep.of_wr W_34).1
    replace lt_b := Nat.lt_of_lt_of_le lt_b (Keep.of_wr W_34).1
    replace Zs := Nat.le_trans Zs (Keep.of_wr W_34).1
    replace Kp := Kp.wr W_34 (Or.inl (by simp))
    replace V_a : Arv Z h_34 a ka .long (2 : Int32) [(.long (u0 &&& mk0_0)), (.long u1)] (.long (0 : Int64)) := V_34
    replace Nf := Fr.snoc X_34 Nf g_a
    refine Win.go st_34 ?_
    clear st_34 W_34 V_34 Ar_34 q_34 S_34 N_34 H_34 G_34 X0 e0
    show Win p.tables e below _ (T_34.setTop (mkF m 80 #[.val (.ref a), .val (.ref b), .val (.long t0), .second, .val (.int (1 : Int32)), .val (.int (0 : Int32)), .val (.long mk0_0), .second] []))
    refine Win.go (fun _ k => XS.iinc X_34.here hx rfl (hb hby d3_80) rfl (l' := #[.val (.ref a), .val (.ref b), .val (.long t0), .second, .val (.int (1 : Int32)), .val (.int (1 : Int32)), .val (.long mk0_0), .second]) rfl k) ?_
    show Win p.tables e below _ (T_34.setTop (mkF m 83 #[.val (.ref a), .val (.ref b), .val (.long t0), .second, .val (.int (1 : Int32)), .val (.int (1 : Int32)), .val (.long mk0_0), .second] []))
    refine s_goto (pc' := 8) X_34.here hx (hb hby d3_83) (by decide) (by decide) ?_
    refine s_iload (pc' := 10) X_34.here hx (hb hby d3_8) rfl rfl ?_
    refine s_aloadN (pc' := 11) X_34.here hx (hb hby d3_10) rfl rfl rfl ?_
    obtain ⟨cl_35, Ar_35, q_35, S_35, N_35, H_35, G_35⟩ := id V_a
    refine Win.go (fun _ k => X_34.arraylength hx (by rw [e_34]; exact Ar_35.1) (State.isArrayOf_alike hZ.alike Ar_35.2.1) (g := (mkF m 11 #[.val (.ref a), .val (.ref b), .val (.long t0), .second, .val (.int (1 : Int32)), .val (.int (1 : Int32)), .val (.long mk0_0), .second] [(.ref a), (.int (1 : Int32))])) rfl rfl (hb hby d3_11) _ k) ?_
    rw [len_of S_35 N_35]
    clear Ar_35 q_35 S_35 N_35 H_35 G_35
    show Win p.tables e below _ (T_34.setTop (mkF m 12 #[.val (.ref a), .val (.ref b), .val (.long t0), .second, .val (.int (1 : Int32)), .val (.int (1 : Int32)), .val (.long mk0_0), .second] [(.int (2 : Int32)), (.int (1 : Int32))]))
    refine s_icmpNo (pc' := 15) X_34.here hx (hb hby d3_12) rfl (tltI (x := (1 : Int32)) (y := (2 : Int32)) (by decide)).2.1 ?_
    refine s_lconst (pc' := 16) (z := (0 : Int64)) X_34.here hx (hb hby d3_15) rfl rfl ?_
    refine s_lstore (pc' := 18) (l' := #[.val (.ref a), .val (.ref b), .val (.long t0), .second, .val (.int (1 : Int32)), .val (.int (1 : Int32)), .val (.long (0 : Int64)), .second]) X_34.here hx (hb hby d3_16) rfl rfl ?_
    refine s_iload (pc' := 20) X_34.here hx (hb hby d3_18) rfl rfl ?_
    refine s_aloadN (pc' := 21) X_34.here hx (hb hby d3_20) rfl rfl rfl ?_
    obtain ⟨cl_36, Ar_36, q_36, S_36, N_36, H_36, G_36⟩ := id V_b
    refine Win.go (fun _ k => X_34.arraylength hx (by rw [e_34]; exact Ar_36.1) (State.isArrayOf_alike hZ.alike Ar_36.2.1) (g := (mkF m 21 #[.val (.ref a), .val (.ref b), .val (.long t0), .second, .val (.int (1 : Int32)), .val (.int (1 : Int32)), .val (.long (0 : Int64)), .second] [(.ref b), (.int (1 : Int32))])) rfl rfl (hb hby d3_21) _ k) ?_
    rw [len_of S_36 N_36]
    clear Ar_36 q_36 S_36 N_36 H_36 G_36
    show Win p.tables e below _ (T_34.setTop (mkF m 22 #[.val (.ref a), .val (.ref b), .val (.long t0), .second, .val (.int (1 : Int32)), .val (.int (1 : Int32)), .val (.long (0 : Int64)), .second] [(.int (1 : Int32)), (.int (1 : Int32))]))
    refine s_icmpYes (pc' := 57) X_34.here hx (hb hby d3_22) (fltI (x := (1 : Int32)) (y := (1 : Int32)) (by decide)).2.1 (by decide) (by decide) ?_
    refine s_lloadN (pc' := 58) X_34.here hx (hb hby d3_57) rfl rfl ?_
    refine s_aloadN (pc' := 59) X_34.here hx (hb hby d3_58) rfl rfl rfl ?_
    refine s_iload (pc' := 61) X_34.here hx (hb hby d3_59) rfl rfl ?_
    obtain ⟨cl_37, Ar_37, q_37, S_37, N_37, H_37, G_37⟩ := id V_a
    have hi_37 : ¬ ((1 : Int32) < 0 ∨ cl_37.slots.size ≤ ((1 : Int32)).toNatClampNeg) := inb_of S_37 ⟨by decide, by decide⟩
    refine Win.go (fun _ k => X_34.laload hx (j := (1 : Int32)) (v := (.long u1)) (by rw [e_34]; exact Ar_37.1) (State.isArrayOf_alike hZ.alike Ar_37.2.1) Ar_37.2.2 hi_37 (H_37.at hi_37 rfl) (g := (mkF m 61 #[.val (.ref a), .val (.ref b), .val (.long t0), .second, .val (.int (1 : Int32)), .val (.int (1 : Int32)), .val (.long (0 : Int64)), .second] [(.int (1 : Int32)), (.ref a), (.long t0)])) rfl rfl (hb hby d3_61) _ k) ?_
    show Win p.tables e below _ (T_34.setTop (mkF m 62 #[.val (.ref a), .val (.ref b), .val (.long t0), .second, .val (.int (1 : Int32)), .val (.int (1 : Int32)), .val (.long (0 : Int64)), .second] [(.long u1), (.long t0)]))
    clear Ar_37 q_37 S_37 N_37 H_37 G_37 hi_37
    refine s_lload (pc' := 64) X_34.here hx (hb hby d3_62) rfl rfl ?_
    refine Win.go (fun _ k => X_34.ldc2Long hx hown (mvT hZ (hw _ (List.mem_of_getElem? (i := 14) rfl))) (g := (mkF m 64 #[.val (.ref a), .val (.ref b), .val (.long t0), .second, .val (.int (1 : Int32)), .val (.int (1 : Int32)), .val (.long (0 : Int64)), .second] [(.long (0 : Int64)), (.long u1), (.long t0)])) rfl (hb hby d3_64) _ k) ?_
    show Win p.tables e below _ (T_34.setTop (mkF m 67 #[.val (.ref a), .val (.ref b), .val (.long t0), .second, .val (.int (1 : Int32)), .val (.int (1 : Int32)), .val (.long (0 : Int64)), .second] [(.long (-1 : Int64)), (.long (0 : Int64)), (.long u1), (.long t0)]))
    refine Win.go (fun _ k => XS.lxor X_34.here hx rfl (hb hby d3_67) rfl k) ?_
    show Win p.tables e below _ (T_34.setTop (mkF m 68 #[.val (.ref a), .val (.ref b), .val (.long t0), .second, .val (.int (1 : Int32)), .val (.int (1 : Int32)), .val (.long (0 : Int64)), .second] [(.long (-1 : Int64)), (.long u1), (.long t0)]))
    refine s_land (pc' := 69) X_34.here hx (hb hby d3_68) rfl ?_
    refine s_lor (pc' := 70) X_34.here hx (hb hby d3_69) rfl ?_
    refine s_lstoreN (pc' := 71) (l' := #[.val (.ref a), .val (.ref b), .val (.long (t0 ||| (u1 &&& (-1 : Int64)))), .second, .val (.int (1 : Int32)), .val (.int (1 : Int32)), .val (.long (0 : Int64)), .second]) X_34.here hx (hb hby d3_70) rfl rfl ?_
    generalize ht1 : (t0 ||| (u1 &&& (-1 : Int64))) = t1
    show Win p.tables e below _ (T_34.setTop (mkF m 71 #[.val (.ref a), .val (.ref b), .val (.long t1), .second, .val (.int (1 : Int32)), .val (.int (1 : Int32)), .val (.long (0 : Int64)), .second] []))
    refine s_aloadN (pc' := 72) X_34.here hx (hb hby d3_71) rfl rfl rfl ?_
    refine s_iload (pc' := 74) X_34.here hx (hb hby d3_72) rfl rfl ?_
    refine Win.go (fun _ k => XT.dup2 X_34.here hx rfl (hb hby d3_74) rfl rfl rfl k) ?_
    show Win p.tables e below _ (T_34.setTop (mkF m 75 #[.val (.ref a), .val (.ref b), .val (.long t1), .second, .val (.int (1 : Int32)), .val (.int (1 : Int32)), .val (.long (0 : Int64)), .second] [(.int (1 : Int32)), (.ref a), (.int (1 : Int32)), (.ref a)]))
    obtain ⟨cl_38, Ar_38, q_38, S_38, N_38, H_38, G_38⟩ := id V_a
    have hi_38 : ¬ ((1 : Int32) < 0 ∨ cl_38.slots.size ≤ ((1 : Int32)).toNatClampNeg) := inb_of S_38 ⟨by decide, by decide⟩
    refine Win.go (fun _ k => X_34.laload hx (j := (1 : Int32)) (v := (.long u1)) (by rw [e_34]; exact Ar_38.1) (State.isArrayOf_alike hZ.alike Ar_38.2.1) Ar_38.2.2 hi_38 (H_38.at hi_38 rfl) (g := (mkF m 75 #[.val (.ref a), .val (.ref b), .val (.long t1), .second, .val (.int (1 : Int32)), .val (.int (1 : Int32)), .val (.long (0 : Int64)), .second] [(.int (1 : Int32)), (.ref a), (.int (1 : Int32)), (.ref a)])) rfl rfl (hb hby d3_75) _ k) ?_
    show Win p.tables e below _ (T_34.setTop (mkF m 76 #[.val (.ref a), .val (.ref b), .val (.long t1), .second, .val (.int (1 : Int32)), .val (.int (1 : Int32)), .val (.long (0 : Int64)), .second] [(.long u1), (.int (1 : Int32)), (.ref a)]))
    clear Ar_38 q_38 S_38 N_38 H_38 G_38 hi_38
    refine s_lload (pc' := 78) X_34.here hx (hb hby d3_76) rfl rfl ?_
    refine s_land (pc' := 79) X_34.here hx (hb hby d3_78) rfl ?_
    obtain ⟨cl_39, Ar_39, q_39, S_39, N_39, H_39, G_39⟩ := V_a
    obtain ⟨T_39, h_39, X_39, e_39, W_39, st_39⟩ := stJ X_34 hx hZ e_34 Ar_39 (j := (1 : Int32)) (inb_of S_39 ⟨by decide, by decide⟩) (g := (mkF m 79 #[.val (.ref a), .val (.ref b), .val (.long t1), .second, .val (.int (1 : Int32)), .val (.int (1 : Int32)), .val (.long (0 : Int64)), .second] [(.long (u1 &&& (0 : Int64))), (.int (1 : Int32)), (.ref a)])) rfl rfl (hb hby d3_79)
    have V_39 := Arv.set Ar_39 q_39 S_39 N_39 H_39 G_39 rfl W_39 1 rfl (Nat.le_of_ble_eq_true rfl)
    replace V_b := V_b.other W_39 ne_b_a
    replace lt_a := Nat.lt_of_lt_of_le lt_a (Keep.of_wr W_39).1
    replace lt_b := Nat.lt_of_lt_of_le lt_b (Keep.of_wr W_39).1
    replace Zs := Nat.le_trans Zs (Keep.of_wr W_39).1
    replace Kp := Kp.wr W_39 (Or.inl (by simp))
    replace V_a : Arv Z h_39 a ka .long (2 : Int32) [(.long (u0 &&& mk0_0)), (.long (u1 &&& (0 : Int64)))] (.long (0 : Int64)) := V_39
    replace Nf := Fr.snoc X_39 Nf g_a
    refine Win.go st_39 ?_
    clear st_39 W_39 V_39 Ar_39 q_39 S_39 N_39 H_39 G_39 X_34 e_34
    show Win p.tables e below _ (T_39.setTop (mkF m 80 #[.val (.ref a), .val (.ref b), .val (.long t1), .second, .val (.int (1 : Int32)), .val (.int (1 : Int32)), .val (.long (0 : Int64)), .second] []))
    refine Win.go (fun _ k => XS.iinc X_39.here hx rfl (hb hby d3_80) rfl (l' := #[.val (.ref a), .val (.ref b), .val (.long t1), .second, .val (.int (1 : Int32)), .val (.int (2 : Int32)), .val (.long (0 : Int64)), .second]) rfl k) ?_
    show Win p.tables e below _ (T_39.setTop (mkF m 83 #[.val (.ref a), .val (.ref b), .val (.long t1), .second, .val (.int (1 : Int32)), .val (.int (2 : Int32)), .val (.long (0 : Int64)), .second] []))
    refine s_goto (pc' := 8) X_39.here hx (hb hby d3_83) (by decide) (by decide) ?_
    refine s_iload (pc' := 10) X_39.here hx (hb hby d3_8) rfl rfl ?_
    refine s_aloadN (pc' := 11) X_39.here hx (hb hby d3_10) rfl rfl rfl ?_
    obtain ⟨cl_40, Ar_40, q_40, S_40, N_40, H_40, G_40⟩ := id V_a
    refine Win.go (fun _ k => X_39.arraylength hx (by rw [e_39]; exact Ar_40.1) (State.isArrayOf_alike hZ.alike Ar_40.2.1) (g := (mkF m 11 #[.val (.ref a), .val (.ref b), .val (.long t1), .second, .val (.int (1 : Int32)), .val (.int (2 : Int32)), .val (.long (0 : Int64)), .second] [(.ref a), (.int (2 : Int32))])) rfl rfl (hb hby d3_11) _ k) ?_
    rw [len_of S_40 N_40]
    clear Ar_40 q_40 S_40 N_40 H_40 G_40
    show Win p.tables e below _ (T_39.setTop (mkF m 12 #[.val (.ref a), .val (.ref b), .val (.long t1), .second, .val (.int (1 : Int32)), .val (.int (2 : Int32)), .val (.long (0 : Int64)), .second] [(.int (2 : Int32)), (.int (2 : Int32))]))
    refine s_icmpYes (pc' := 86) X_39.here hx (hb hby d3_12) (fltI (x := (2 : Int32)) (y := (2 : Int32)) (by decide)).2.1 (by decide) (by decide) ?_
    refine s_lloadN (pc' := 87) X_39.here hx (hb hby d3_86) rfl rfl ?_
    refine s_lconst (pc' := 88) (z := (0 : Int64)) X_39.here hx (hb hby d3_87) rfl rfl ?_
    refine s_lcmp (pc' := 89) X_39.here hx (hb hby d3_88) rfl ?_
    by_cases hc89_1 : (t1).toInt = (0 : Int)
    · skip
      refine s_ifYes (pc' := 96) X_39.here hx (hb hby d3_89) (teqL (x := t1) (y := (0 : Int64)) hc89_1).1 (by decide) (by decide) ?_
      refine s_iconst (pc' := 97) (z := (0 : Int32)) X_39.here hx (hb hby d3_96) rfl rfl ?_
      refine winN X_39 hx hlk e_39 (t := .boolean) Bd.returns (by simp) (hb hby d3_97) (by decide) (by decide) (z' := (0 : Int32)) rfl ?_
      have e0 := own_lo (v := v0) (by omega) (by omega)
      have mA : ((((bit0 v0) ||| (0 : Int64)) ||| (0 : Int64)) ||| (0 : Int64)) = mk0_0 := by rw [← hmk0_0]; simp only [e0.1, e0.2, Int64.or_zero, Int64.zero_or]
      have mB : ((((bit1 v0) ||| (0 : Int64)) ||| (0 : Int64)) ||| (0 : Int64)) = (0 : Int64) := by simp only [e0.1, e0.2, Int64.or_zero, Int64.zero_or]
      have tt : (((0 : Int64) ||| (u0 &&& (((((bit0 v0) ||| (0 : Int64)) ||| (0 : Int64)) ||| (0 : Int64)) ^^^ (-1 : Int64)))) ||| (u1 &&& (((((bit1 v0) ||| (0 : Int64)) ||| (0 : Int64)) ||| (0 : Int64)) ^^^ (-1 : Int64)))) = t1 := by rw [mA, mB, show ((0 : Int64) ^^^ (-1 : Int64)) = -1 from by decide, ht0, ht1]
      refine ⟨Nf, Kp, by rw [mA, mB]; exact V_a, _, rfl, Or.inr ⟨rfl, ?_⟩⟩
      rw [tt]
      exact fun q => q hc89_1
    · skip
      refine s_ifNo (pc' := 92) X_39.here hx (hb hby d3_89) rfl (feqL (x := t1) (y := (0 : Int64)) hc89_1).1 ?_
      refine s_iconst (pc' := 93) (z := (1 : Int32)) X_39.here hx (hb hby d3_92) rfl rfl ?_
      refine s_goto (pc' := 97) X_39.here hx (hb hby d3_93) (by decide) (by decide) ?_
      refine winN X_39 hx hlk e_39 (t := .boolean) Bd.returns (by simp) (hb hby d3_97) (by decide) (by decide) (z' := (1 : Int32)) rfl ?_
      have e0 := own_lo (v := v0) (by omega) (by omega)
      have mA : ((((bit0 v0) ||| (0 : Int64)) ||| (0 : Int64)) ||| (0 : Int64)) = mk0_0 := by rw [← hmk0_0]; simp only [e0.1, e0.2, Int64.or_zero, Int64.zero_or]
      have mB : ((((bit1 v0) ||| (0 : Int64)) ||| (0 : Int64)) ||| (0 : Int64)) = (0 : Int64) := by simp only [e0.1, e0.2, Int64.or_zero, Int64.zero_or]
      have tt : (((0 : Int64) ||| (u0 &&& (((((bit0 v0) ||| (0 : Int64)) ||| (0 : Int64)) ||| (0 : Int64)) ^^^ (-1 : Int64)))) ||| (u1 &&& (((((bit1 v0) ||| (0 : Int64)) ||| (0 : Int64)) ||| (0 : Int64)) ^^^ (-1 : Int64)))) = t1 := by rw [mA, mB, show ((0 : Int64) ^^^ (-1 : Int64)) = -1 from by decide, ht0, ht1]
      refine ⟨Nf, Kp, by rw [mA, mB]; exact V_a, _, rfl, Or.inl ⟨rfl, ?_⟩⟩
      rw [tt]
      exact hc89_1
  · skip
    refine s_icmpYes (pc' := 57) X0.here hx (hb hby d3_34) (feqI (x := (v0 / (64 : Int32))) (y := (0 : Int32)) hc34_0).2 (by decide) (by decide) ?_
    refine s_lloadN (pc' := 58) X0.here hx (hb hby d3_57) rfl rfl ?_
    refine s_aloadN (pc' := 59) X0.here hx (hb hby d3_58) rfl rfl rfl ?_
    refine s_iload (pc' := 61) X0.here hx (hb hby d3_59) rfl rfl ?_
    obtain ⟨cl_41, Ar_41, q_41, S_41, N_41, H_41, G_41⟩ := id V_a
    have hi_41 : ¬ ((0 : Int32) < 0 ∨ cl_41.slots.size ≤ ((0 : Int32)).toNatClampNeg) := inb_of S_41 ⟨by decide, by decide⟩
    refine Win.go (fun _ k => X0.laload hx (j := (0 : Int32)) (v := (.long u0)) (by rw [e0]; exact Ar_41.1) (State.isArrayOf_alike hZ.alike Ar_41.2.1) Ar_41.2.2 hi_41 (H_41.at hi_41 rfl) (g := (mkF m 61 #[.val (.ref a), .val (.ref b), .val (.long (0 : Int64)), .second, .val (.int (0 : Int32)), .val (.int (0 : Int32)), .val (.long (0 : Int64)), .second] [(.int (0 : Int32)), (.ref a), (.long (0 : Int64))])) rfl rfl (hb hby d3_61) _ k) ?_
    show Win p.tables e below _ (s₁.setTop (mkF m 62 #[.val (.ref a), .val (.ref b), .val (.long (0 : Int64)), .second, .val (.int (0 : Int32)), .val (.int (0 : Int32)), .val (.long (0 : Int64)), .second] [(.long u0), (.long (0 : Int64))]))
    clear Ar_41 q_41 S_41 N_41 H_41 G_41 hi_41
    refine s_lload (pc' := 64) X0.here hx (hb hby d3_62) rfl rfl ?_
    refine Win.go (fun _ k => X0.ldc2Long hx hown (mvT hZ (hw _ (List.mem_of_getElem? (i := 14) rfl))) (g := (mkF m 64 #[.val (.ref a), .val (.ref b), .val (.long (0 : Int64)), .second, .val (.int (0 : Int32)), .val (.int (0 : Int32)), .val (.long (0 : Int64)), .second] [(.long (0 : Int64)), (.long u0), (.long (0 : Int64))])) rfl (hb hby d3_64) _ k) ?_
    show Win p.tables e below _ (s₁.setTop (mkF m 67 #[.val (.ref a), .val (.ref b), .val (.long (0 : Int64)), .second, .val (.int (0 : Int32)), .val (.int (0 : Int32)), .val (.long (0 : Int64)), .second] [(.long (-1 : Int64)), (.long (0 : Int64)), (.long u0), (.long (0 : Int64))]))
    refine Win.go (fun _ k => XS.lxor X0.here hx rfl (hb hby d3_67) rfl k) ?_
    show Win p.tables e below _ (s₁.setTop (mkF m 68 #[.val (.ref a), .val (.ref b), .val (.long (0 : Int64)), .second, .val (.int (0 : Int32)), .val (.int (0 : Int32)), .val (.long (0 : Int64)), .second] [(.long (-1 : Int64)), (.long u0), (.long (0 : Int64))]))
    refine s_land (pc' := 69) X0.here hx (hb hby d3_68) rfl ?_
    refine s_lor (pc' := 70) X0.here hx (hb hby d3_69) rfl ?_
    refine s_lstoreN (pc' := 71) (l' := #[.val (.ref a), .val (.ref b), .val (.long ((0 : Int64) ||| (u0 &&& (-1 : Int64)))), .second, .val (.int (0 : Int32)), .val (.int (0 : Int32)), .val (.long (0 : Int64)), .second]) X0.here hx (hb hby d3_70) rfl rfl ?_
    generalize ht0 : ((0 : Int64) ||| (u0 &&& (-1 : Int64))) = t0
    show Win p.tables e below _ (s₁.setTop (mkF m 71 #[.val (.ref a), .val (.ref b), .val (.long t0), .second, .val (.int (0 : Int32)), .val (.int (0 : Int32)), .val (.long (0 : Int64)), .second] []))
    refine s_aloadN (pc' := 72) X0.here hx (hb hby d3_71) rfl rfl rfl ?_
    refine s_iload (pc' := 74) X0.here hx (hb hby d3_72) rfl rfl ?_
    refine Win.go (fun _ k => XT.dup2 X0.here hx rfl (hb hby d3_74) rfl rfl rfl k) ?_
    show Win p.tables e below _ (s₁.setTop (mkF m 75 #[.val (.ref a), .val (.ref b), .val (.long t0), .second, .val (.int (0 : Int32)), .val (.int (0 : Int32)), .val (.long (0 : Int64)), .second] [(.int (0 : Int32)), (.ref a), (.int (0 : Int32)), (.ref a)]))
    obtain ⟨cl_42, Ar_42, q_42, S_42, N_42, H_42, G_42⟩ := id V_a
    have hi_42 : ¬ ((0 : Int32) < 0 ∨ cl_42.slots.size ≤ ((0 : Int32)).toNatClampNeg) := inb_of S_42 ⟨by decide, by decide⟩
    refine Win.go (fun _ k => X0.laload hx (j := (0 : Int32)) (v := (.long u0)) (by rw [e0]; exact Ar_42.1) (State.isArrayOf_alike hZ.alike Ar_42.2.1) Ar_42.2.2 hi_42 (H_42.at hi_42 rfl) (g := (mkF m 75 #[.val (.ref a), .val (.ref b), .val (.long t0), .second, .val (.int (0 : Int32)), .val (.int (0 : Int32)), .val (.long (0 : Int64)), .second] [(.int (0 : Int32)), (.ref a), (.int (0 : Int32)), (.ref a)])) rfl rfl (hb hby d3_75) _ k) ?_
    show Win p.tables e below _ (s₁.setTop (mkF m 76 #[.val (.ref a), .val (.ref b), .val (.long t0), .second, .val (.int (0 : Int32)), .val (.int (0 : Int32)), .val (.long (0 : Int64)), .second] [(.long u0), (.int (0 : Int32)), (.ref a)]))
    clear Ar_42 q_42 S_42 N_42 H_42 G_42 hi_42
    refine s_lload (pc' := 78) X0.here hx (hb hby d3_76) rfl rfl ?_
    refine s_land (pc' := 79) X0.here hx (hb hby d3_78) rfl ?_
    obtain ⟨cl_43, Ar_43, q_43, S_43, N_43, H_43, G_43⟩ := V_a
    obtain ⟨T_43, h_43, X_43, e_43, W_43, st_43⟩ := stJ X0 hx hZ e0 Ar_43 (j := (0 : Int32)) (inb_of S_43 ⟨by decide, by decide⟩) (g := (mkF m 79 #[.val (.ref a), .val (.ref b), .val (.long t0), .second, .val (.int (0 : Int32)), .val (.int (0 : Int32)), .val (.long (0 : Int64)), .second] [(.long (u0 &&& (0 : Int64))), (.int (0 : Int32)), (.ref a)])) rfl rfl (hb hby d3_79)
    have V_43 := Arv.set Ar_43 q_43 S_43 N_43 H_43 G_43 rfl W_43 0 rfl (Nat.le_of_ble_eq_true rfl)
    replace V_b := V_b.other W_43 ne_b_a
    replace lt_a := Nat.lt_of_lt_of_le lt_a (Keep.of_wr W_43).1
    replace lt_b := Nat.lt_of_lt_of_le lt_b (Keep.of_wr W_43).1
    replace Zs := Nat.le_trans Zs (Keep.of_wr W_43).1
    replace Kp := Kp.wr W_43 (Or.inl (by simp))
    replace V_a : Arv Z h_43 a ka .long (2 : Int32) [(.long (u0 &&& (0 : Int64))), (.long u1)] (.long (0 : Int64)) := V_43
    replace Nf := Fr.snoc X_43 Nf g_a
    refine Win.go st_43 ?_
    clear st_43 W_43 V_43 Ar_43 q_43 S_43 N_43 H_43 G_43 X0 e0
    show Win p.tables e below _ (T_43.setTop (mkF m 80 #[.val (.ref a), .val (.ref b), .val (.long t0), .second, .val (.int (0 : Int32)), .val (.int (0 : Int32)), .val (.long (0 : Int64)), .second] []))
    refine Win.go (fun _ k => XS.iinc X_43.here hx rfl (hb hby d3_80) rfl (l' := #[.val (.ref a), .val (.ref b), .val (.long t0), .second, .val (.int (0 : Int32)), .val (.int (1 : Int32)), .val (.long (0 : Int64)), .second]) rfl k) ?_
    show Win p.tables e below _ (T_43.setTop (mkF m 83 #[.val (.ref a), .val (.ref b), .val (.long t0), .second, .val (.int (0 : Int32)), .val (.int (1 : Int32)), .val (.long (0 : Int64)), .second] []))
    refine s_goto (pc' := 8) X_43.here hx (hb hby d3_83) (by decide) (by decide) ?_
    refine s_iload (pc' := 10) X_43.here hx (hb hby d3_8) rfl rfl ?_
    refine s_aloadN (pc' := 11) X_43.here hx (hb hby d3_10) rfl rfl rfl ?_
    obtain ⟨cl_44, Ar_44, q_44, S_44, N_44, H_44, G_44⟩ := id V_a
    refine Win.go (fun _ k => X_43.arraylength hx (by rw [e_43]; exact Ar_44.1) (State.isArrayOf_alike hZ.alike Ar_44.2.1) (g := (mkF m 11 #[.val (.ref a), .val (.ref b), .val (.long t0), .second, .val (.int (0 : Int32)), .val (.int (1 : Int32)), .val (.long (0 : Int64)), .second] [(.ref a), (.int (1 : Int32))])) rfl rfl (hb hby d3_11) _ k) ?_
    rw [len_of S_44 N_44]
    clear Ar_44 q_44 S_44 N_44 H_44 G_44
    show Win p.tables e below _ (T_43.setTop (mkF m 12 #[.val (.ref a), .val (.ref b), .val (.long t0), .second, .val (.int (0 : Int32)), .val (.int (1 : Int32)), .val (.long (0 : Int64)), .second] [(.int (2 : Int32)), (.int (1 : Int32))]))
    refine s_icmpNo (pc' := 15) X_43.here hx (hb hby d3_12) rfl (tltI (x := (1 : Int32)) (y := (2 : Int32)) (by decide)).2.1 ?_
    refine s_lconst (pc' := 16) (z := (0 : Int64)) X_43.here hx (hb hby d3_15) rfl rfl ?_
    refine s_lstore (pc' := 18) (l' := #[.val (.ref a), .val (.ref b), .val (.long t0), .second, .val (.int (0 : Int32)), .val (.int (1 : Int32)), .val (.long (0 : Int64)), .second]) X_43.here hx (hb hby d3_16) rfl rfl ?_
    refine s_iload (pc' := 20) X_43.here hx (hb hby d3_18) rfl rfl ?_
    refine s_aloadN (pc' := 21) X_43.here hx (hb hby d3_20) rfl rfl rfl ?_
    obtain ⟨cl_45, Ar_45, q_45, S_45, N_45, H_45, G_45⟩ := id V_b
    refine Win.go (fun _ k => X_43.arraylength hx (by rw [e_43]; exact Ar_45.1) (State.isArrayOf_alike hZ.alike Ar_45.2.1) (g := (mkF m 21 #[.val (.ref a), .val (.ref b), .val (.long t0), .second, .val (.int (0 : Int32)), .val (.int (1 : Int32)), .val (.long (0 : Int64)), .second] [(.ref b), (.int (0 : Int32))])) rfl rfl (hb hby d3_21) _ k) ?_
    rw [len_of S_45 N_45]
    clear Ar_45 q_45 S_45 N_45 H_45 G_45
    show Win p.tables e below _ (T_43.setTop (mkF m 22 #[.val (.ref a), .val (.ref b), .val (.long t0), .second, .val (.int (0 : Int32)), .val (.int (1 : Int32)), .val (.long (0 : Int64)), .second] [(.int (1 : Int32)), (.int (0 : Int32))]))
    refine s_icmpNo (pc' := 25) X_43.here hx (hb hby d3_22) rfl (tltI (x := (0 : Int32)) (y := (1 : Int32)) (by decide)).2.1 ?_
    refine s_aloadN (pc' := 26) X_43.here hx (hb hby d3_25) rfl rfl rfl ?_
    refine s_iload (pc' := 28) X_43.here hx (hb hby d3_26) rfl rfl ?_
    obtain ⟨cl_46, Ar_46, q_46, S_46, N_46, H_46, G_46⟩ := id V_b
    have hi_46 : ¬ ((0 : Int32) < 0 ∨ cl_46.slots.size ≤ ((0 : Int32)).toNatClampNeg) := inb_of S_46 ⟨by decide, by decide⟩
    refine Win.go (fun _ k => X_43.iaload hx (j := (0 : Int32)) (v := (.int v0)) (by rw [e_43]; exact Ar_46.1) (State.isArrayOf_alike hZ.alike Ar_46.2.1) Ar_46.2.2 hi_46 (H_46.at hi_46 rfl) (g := (mkF m 28 #[.val (.ref a), .val (.ref b), .val (.long t0), .second, .val (.int (0 : Int32)), .val (.int (1 : Int32)), .val (.long (0 : Int64)), .second] [(.int (0 : Int32)), (.ref b)])) rfl rfl (hb hby d3_28) _ k) ?_
    show Win p.tables e below _ (T_43.setTop (mkF m 29 #[.val (.ref a), .val (.ref b), .val (.long t0), .second, .val (.int (0 : Int32)), .val (.int (1 : Int32)), .val (.long (0 : Int64)), .second] [(.int v0)]))
    clear Ar_46 q_46 S_46 N_46 H_46 G_46 hi_46
    refine s_bipush (pc' := 31) (z := (64 : Int32)) X_43.here hx (hb hby d3_29) rfl rfl ?_
    refine Win.go (fun _ k => XS.idiv X_43.here hx rfl (hb hby d3_31) rfl (by decide) k) ?_
    show Win p.tables e below _ (T_43.setTop (mkF m 32 #[.val (.ref a), .val (.ref b), .val (.long t0), .second, .val (.int (0 : Int32)), .val (.int (1 : Int32)), .val (.long (0 : Int64)), .second] [(.int (v0 / (64 : Int32)))]))
    refine s_iload (pc' := 34) X_43.here hx (hb hby d3_32) rfl rfl ?_
    by_cases hc34_1 : ((v0 / (64 : Int32))).toInt = (1 : Int)
    · skip
      refine s_icmpNo (pc' := 37) X_43.here hx (hb hby d3_34) rfl (teqI (x := (v0 / (64 : Int32))) (y := (1 : Int32)) hc34_1).2 ?_
      refine s_lload (pc' := 39) X_43.here hx (hb hby d3_37) rfl rfl ?_
      refine s_lconst (pc' := 40) (z := (1 : Int64)) X_43.here hx (hb hby d3_39) rfl rfl ?_
      refine s_aloadN (pc' := 41) X_43.here hx (hb hby d3_40) rfl rfl rfl ?_
      refine s_iload (pc' := 43) X_43.here hx (hb hby d3_41) rfl rfl ?_
      obtain ⟨cl_47, Ar_47, q_47, S_47, N_47, H_47, G_47⟩ := id V_b
      have hi_47 : ¬ ((0 : Int32) < 0 ∨ cl_47.slots.size ≤ ((0 : Int32)).toNatClampNeg) := inb_of S_47 ⟨by decide, by decide⟩
      refine Win.go (fun _ k => X_43.iaload hx (j := (0 : Int32)) (v := (.int v0)) (by rw [e_43]; exact Ar_47.1) (State.isArrayOf_alike hZ.alike Ar_47.2.1) Ar_47.2.2 hi_47 (H_47.at hi_47 rfl) (g := (mkF m 43 #[.val (.ref a), .val (.ref b), .val (.long t0), .second, .val (.int (0 : Int32)), .val (.int (1 : Int32)), .val (.long (0 : Int64)), .second] [(.int (0 : Int32)), (.ref b), (.long (1 : Int64)), (.long (0 : Int64))])) rfl rfl (hb hby d3_43) _ k) ?_
      show Win p.tables e below _ (T_43.setTop (mkF m 44 #[.val (.ref a), .val (.ref b), .val (.long t0), .second, .val (.int (0 : Int32)), .val (.int (1 : Int32)), .val (.long (0 : Int64)), .second] [(.int v0), (.long (1 : Int64)), (.long (0 : Int64))]))
      clear Ar_47 q_47 S_47 N_47 H_47 G_47 hi_47
      refine s_bipush (pc' := 46) (z := (64 : Int32)) X_43.here hx (hb hby d3_44) rfl rfl ?_
      refine Win.go (fun _ k => iremM X_43 hx rfl (hb hby d3_46) rfl (by decide) k) ?_
      show Win p.tables e below _ (T_43.setTop (mkF m 47 #[.val (.ref a), .val (.ref b), .val (.long t0), .second, .val (.int (0 : Int32)), .val (.int (1 : Int32)), .val (.long (0 : Int64)), .second] [(.int (v0 % (64 : Int32))), (.long (1 : Int64)), (.long (0 : Int64))]))
      refine Win.go (fun _ k => XT.lshl X_43.here hx rfl (hb hby d3_47) rfl k) ?_
      show Win p.tables e below _ (T_43.setTop (mkF m 48 #[.val (.ref a), .val (.ref b), .val (.long t0), .second, .val (.int (0 : Int32)), .val (.int (1 : Int32)), .val (.long (0 : Int64)), .second] [(.long ((1 : Int64) <<< ((v0 % (64 : Int32)).toInt64 &&& 63))), (.long (0 : Int64))]))
      refine s_lor (pc' := 49) X_43.here hx (hb hby d3_48) rfl ?_
      refine s_lstore (pc' := 51) (l' := #[.val (.ref a), .val (.ref b), .val (.long t0), .second, .val (.int (0 : Int32)), .val (.int (1 : Int32)), .val (.long ((0 : Int64) ||| ((1 : Int64) <<< ((v0 % (64 : Int32)).toInt64 &&& 63)))), .second]) X_43.here hx (hb hby d3_49) rfl rfl ?_
      generalize hmk1_0 : ((0 : Int64) ||| ((1 : Int64) <<< ((v0 % (64 : Int32)).toInt64 &&& 63))) = mk1_0
      show Win p.tables e below _ (T_43.setTop (mkF m 51 #[.val (.ref a), .val (.ref b), .val (.long t0), .second, .val (.int (0 : Int32)), .val (.int (1 : Int32)), .val (.long mk1_0), .second] []))
      refine Win.go (fun _ k => XS.iinc X_43.here hx rfl (hb hby d3_51) rfl (l' := #[.val (.ref a), .val (.ref b), .val (.long t0), .second, .val (.int (1 : Int32)), .val (.int (1 : Int32)), .val (.long mk1_0), .second]) rfl k) ?_
      show Win p.tables e below _ (T_43.setTop (mkF m 54 #[.val (.ref a), .val (.ref b), .val (.long t0), .second, .val (.int (1 : Int32)), .val (.int (1 : Int32)), .val (.long mk1_0), .second] []))
      refine s_goto (pc' := 18) X_43.here hx (hb hby d3_54) (by decide) (by decide) ?_
      refine s_iload (pc' := 20) X_43.here hx (hb hby d3_18) rfl rfl ?_
      refine s_aloadN (pc' := 21) X_43.here hx (hb hby d3_20) rfl rfl rfl ?_
      obtain ⟨cl_48, Ar_48, q_48, S_48, N_48, H_48, G_48⟩ := id V_b
      refine Win.go (fun _ k => X_43.arraylength hx (by rw [e_43]; exact Ar_48.1) (State.isArrayOf_alike hZ.alike Ar_48.2.1) (g := (mkF m 21 #[.val (.ref a), .val (.ref b), .val (.long t0), .second, .val (.int (1 : Int32)), .val (.int (1 : Int32)), .val (.long mk1_0), .second] [(.ref b), (.int (1 : Int32))])) rfl rfl (hb hby d3_21) _ k) ?_
      rw [len_of S_48 N_48]
      clear Ar_48 q_48 S_48 N_48 H_48 G_48
      show Win p.tables e below _ (T_43.setTop (mkF m 22 #[.val (.ref a), .val (.ref b), .val (.long t0), .second, .val (.int (1 : Int32)), .val (.int (1 : Int32)), .val (.long mk1_0), .second] [(.int (1 : Int32)), (.int (1 : Int32))]))
      refine s_icmpYes (pc' := 57) X_43.here hx (hb hby d3_22) (fltI (x := (1 : Int32)) (y := (1 : Int32)) (by decide)).2.1 (by decide) (by decide) ?_
      refine s_lloadN (pc' := 58) X_43.here hx (hb hby d3_57) rfl rfl ?_
      refine s_aloadN (pc' := 59) X_43.here hx (hb hby d3_58) rfl rfl rfl ?_
      refine s_iload (pc' := 61) X_43.here hx (hb hby d3_59) rfl rfl ?_
      obtain ⟨cl_49, Ar_49, q_49, S_49, N_49, H_49, G_49⟩ := id V_a
      have hi_49 : ¬ ((1 : Int32) < 0 ∨ cl_49.slots.size ≤ ((1 : Int32)).toNatClampNeg) := inb_of S_49 ⟨by decide, by decide⟩
      refine Win.go (fun _ k => X_43.laload hx (j := (1 : Int32)) (v := (.long u1)) (by rw [e_43]; exact Ar_49.1) (State.isArrayOf_alike hZ.alike Ar_49.2.1) Ar_49.2.2 hi_49 (H_49.at hi_49 rfl) (g := (mkF m 61 #[.val (.ref a), .val (.ref b), .val (.long t0), .second, .val (.int (1 : Int32)), .val (.int (1 : Int32)), .val (.long mk1_0), .second] [(.int (1 : Int32)), (.ref a), (.long t0)])) rfl rfl (hb hby d3_61) _ k) ?_
      show Win p.tables e below _ (T_43.setTop (mkF m 62 #[.val (.ref a), .val (.ref b), .val (.long t0), .second, .val (.int (1 : Int32)), .val (.int (1 : Int32)), .val (.long mk1_0), .second] [(.long u1), (.long t0)]))
      clear Ar_49 q_49 S_49 N_49 H_49 G_49 hi_49
      refine s_lload (pc' := 64) X_43.here hx (hb hby d3_62) rfl rfl ?_
      refine Win.go (fun _ k => X_43.ldc2Long hx hown (mvT hZ (hw _ (List.mem_of_getElem? (i := 14) rfl))) (g := (mkF m 64 #[.val (.ref a), .val (.ref b), .val (.long t0), .second, .val (.int (1 : Int32)), .val (.int (1 : Int32)), .val (.long mk1_0), .second] [(.long mk1_0), (.long u1), (.long t0)])) rfl (hb hby d3_64) _ k) ?_
      show Win p.tables e below _ (T_43.setTop (mkF m 67 #[.val (.ref a), .val (.ref b), .val (.long t0), .second, .val (.int (1 : Int32)), .val (.int (1 : Int32)), .val (.long mk1_0), .second] [(.long (-1 : Int64)), (.long mk1_0), (.long u1), (.long t0)]))
      refine s_lxor (pc' := 68) X_43.here hx (hb hby d3_67) rfl ?_
      refine s_land (pc' := 69) X_43.here hx (hb hby d3_68) rfl ?_
      refine s_lor (pc' := 70) X_43.here hx (hb hby d3_69) rfl ?_
      refine s_lstoreN (pc' := 71) (l' := #[.val (.ref a), .val (.ref b), .val (.long (t0 ||| (u1 &&& (mk1_0 ^^^ (-1 : Int64))))), .second, .val (.int (1 : Int32)), .val (.int (1 : Int32)), .val (.long mk1_0), .second]) X_43.here hx (hb hby d3_70) rfl rfl ?_
      generalize ht1 : (t0 ||| (u1 &&& (mk1_0 ^^^ (-1 : Int64)))) = t1
      show Win p.tables e below _ (T_43.setTop (mkF m 71 #[.val (.ref a), .val (.ref b), .val (.long t1), .second, .val (.int (1 : Int32)), .val (.int (1 : Int32)), .val (.long mk1_0), .second] []))
      refine s_aloadN (pc' := 72) X_43.here hx (hb hby d3_71) rfl rfl rfl ?_
      refine s_iload (pc' := 74) X_43.here hx (hb hby d3_72) rfl rfl ?_
      refine Win.go (fun _ k => XT.dup2 X_43.here hx rfl (hb hby d3_74) rfl rfl rfl k) ?_
      show Win p.tables e below _ (T_43.setTop (mkF m 75 #[.val (.ref a), .val (.ref b), .val (.long t1), .second, .val (.int (1 : Int32)), .val (.int (1 : Int32)), .val (.long mk1_0), .second] [(.int (1 : Int32)), (.ref a), (.int (1 : Int32)), (.ref a)]))
      obtain ⟨cl_50, Ar_50, q_50, S_50, N_50, H_50, G_50⟩ := id V_a
      have hi_50 : ¬ ((1 : Int32) < 0 ∨ cl_50.slots.size ≤ ((1 : Int32)).toNatClampNeg) := inb_of S_50 ⟨by decide, by decide⟩
      refine Win.go (fun _ k => X_43.laload hx (j := (1 : Int32)) (v := (.long u1)) (by rw [e_43]; exact Ar_50.1) (State.isArrayOf_alike hZ.alike Ar_50.2.1) Ar_50.2.2 hi_50 (H_50.at hi_50 rfl) (g := (mkF m 75 #[.val (.ref a), .val (.ref b), .val (.long t1), .second, .val (.int (1 : Int32)), .val (.int (1 : Int32)), .val (.long mk1_0), .second] [(.int (1 : Int32)), (.ref a), (.int (1 : Int32)), (.ref a)])) rfl rfl (hb hby d3_75) _ k) ?_
      show Win p.tables e below _ (T_43.setTop (mkF m 76 #[.val (.ref a), .val (.ref b), .val (.long t1), .second, .val (.int (1 : Int32)), .val (.int (1 : Int32)), .val (.long mk1_0), .second] [(.long u1), (.int (1 : Int32)), (.ref a)]))
      clear Ar_50 q_50 S_50 N_50 H_50 G_50 hi_50
      refine s_lload (pc' := 78) X_43.here hx (hb hby d3_76) rfl rfl ?_
      refine s_land (pc' := 79) X_43.here hx (hb hby d3_78) rfl ?_
      obtain ⟨cl_51, Ar_51, q_51, S_51, N_51, H_51, G_51⟩ := V_a
      obtain ⟨T_51, h_51, X_51, e_51, W_51, st_51⟩ := stJ X_43 hx hZ e_43 Ar_51 (j := (1 : Int32)) (inb_of S_51 ⟨by decide, by decide⟩) (g := (mkF m 79 #[.val (.ref a), .val (.ref b), .val (.long t1), .second, .val (.int (1 : Int32)), .val (.int (1 : Int32)), .val (.long mk1_0), .second] [(.long (u1 &&& mk1_0)), (.int (1 : Int32)), (.ref a)])) rfl rfl (hb hby d3_79)
      have V_51 := Arv.set Ar_51 q_51 S_51 N_51 H_51 G_51 rfl W_51 1 rfl (Nat.le_of_ble_eq_true rfl)
      replace V_b := V_b.other W_51 ne_b_a
      replace lt_a := Nat.lt_of_lt_of_le lt_a (Keep.of_wr W_51).1
      replace lt_b := Nat.lt_of_lt_of_le lt_b (Keep.of_wr W_51).1
      replace Zs := Nat.le_trans Zs (Keep.of_wr W_51).1
      replace Kp := Kp.wr W_51 (Or.inl (by simp))
      replace V_a : Arv Z h_51 a ka .long (2 : Int32) [(.long (u0 &&& (0 : Int64))), (.long (u1 &&& mk1_0))] (.long (0 : Int64)) := V_51
      replace Nf := Fr.snoc X_51 Nf g_a
      refine Win.go st_51 ?_
      clear st_51 W_51 V_51 Ar_51 q_51 S_51 N_51 H_51 G_51 X_43 e_43
      show Win p.tables e below _ (T_51.setTop (mkF m 80 #[.val (.ref a), .val (.ref b), .val (.long t1), .second, .val (.int (1 : Int32)), .val (.int (1 : Int32)), .val (.long mk1_0), .second] []))
      refine Win.go (fun _ k => XS.iinc X_51.here hx rfl (hb hby d3_80) rfl (l' := #[.val (.ref a), .val (.ref b), .val (.long t1), .second, .val (.int (1 : Int32)), .val (.int (2 : Int32)), .val (.long mk1_0), .second]) rfl k) ?_
      show Win p.tables e below _ (T_51.setTop (mkF m 83 #[.val (.ref a), .val (.ref b), .val (.long t1), .second, .val (.int (1 : Int32)), .val (.int (2 : Int32)), .val (.long mk1_0), .second] []))
      refine s_goto (pc' := 8) X_51.here hx (hb hby d3_83) (by decide) (by decide) ?_
      refine s_iload (pc' := 10) X_51.here hx (hb hby d3_8) rfl rfl ?_
      refine s_aloadN (pc' := 11) X_51.here hx (hb hby d3_10) rfl rfl rfl ?_
      obtain ⟨cl_52, Ar_52, q_52, S_52, N_52, H_52, G_52⟩ := id V_a
      refine Win.go (fun _ k => X_51.arraylength hx (by rw [e_51]; exact Ar_52.1) (State.isArrayOf_alike hZ.alike Ar_52.2.1) (g := (mkF m 11 #[.val (.ref a), .val (.ref b), .val (.long t1), .second, .val (.int (1 : Int32)), .val (.int (2 : Int32)), .val (.long mk1_0), .second] [(.ref a), (.int (2 : Int32))])) rfl rfl (hb hby d3_11) _ k) ?_
      rw [len_of S_52 N_52]
      clear Ar_52 q_52 S_52 N_52 H_52 G_52
      show Win p.tables e below _ (T_51.setTop (mkF m 12 #[.val (.ref a), .val (.ref b), .val (.long t1), .second, .val (.int (1 : Int32)), .val (.int (2 : Int32)), .val (.long mk1_0), .second] [(.int (2 : Int32)), (.int (2 : Int32))]))
      refine s_icmpYes (pc' := 86) X_51.here hx (hb hby d3_12) (fltI (x := (2 : Int32)) (y := (2 : Int32)) (by decide)).2.1 (by decide) (by decide) ?_
      refine s_lloadN (pc' := 87) X_51.here hx (hb hby d3_86) rfl rfl ?_
      refine s_lconst (pc' := 88) (z := (0 : Int64)) X_51.here hx (hb hby d3_87) rfl rfl ?_
      refine s_lcmp (pc' := 89) X_51.here hx (hb hby d3_88) rfl ?_
      by_cases hc89_2 : (t1).toInt = (0 : Int)
      · skip
        refine s_ifYes (pc' := 96) X_51.here hx (hb hby d3_89) (teqL (x := t1) (y := (0 : Int64)) hc89_2).1 (by decide) (by decide) ?_
        refine s_iconst (pc' := 97) (z := (0 : Int32)) X_51.here hx (hb hby d3_96) rfl rfl ?_
        refine winN X_51 hx hlk e_51 (t := .boolean) Bd.returns (by simp) (hb hby d3_97) (by decide) (by decide) (z' := (0 : Int32)) rfl ?_
        have e0 := own_hi (v := v0) (by omega) (by omega)
        have mA : ((((bit0 v0) ||| (0 : Int64)) ||| (0 : Int64)) ||| (0 : Int64)) = (0 : Int64) := by simp only [e0.1, e0.2, Int64.or_zero, Int64.zero_or]
        have mB : ((((bit1 v0) ||| (0 : Int64)) ||| (0 : Int64)) ||| (0 : Int64)) = mk1_0 := by rw [← hmk1_0]; simp only [e0.1, e0.2, Int64.or_zero, Int64.zero_or]
        have tt : (((0 : Int64) ||| (u0 &&& (((((bit0 v0) ||| (0 : Int64)) ||| (0 : Int64)) ||| (0 : Int64)) ^^^ (-1 : Int64)))) ||| (u1 &&& (((((bit1 v0) ||| (0 : Int64)) ||| (0 : Int64)) ||| (0 : Int64)) ^^^ (-1 : Int64)))) = t1 := by rw [mA, mB, show ((0 : Int64) ^^^ (-1 : Int64)) = -1 from by decide, ht0, ht1]
        refine ⟨Nf, Kp, by rw [mA, mB]; exact V_a, _, rfl, Or.inr ⟨rfl, ?_⟩⟩
        rw [tt]
        exact fun q => q hc89_2
      · skip
        refine s_ifNo (pc' := 92) X_51.here hx (hb hby d3_89) rfl (feqL (x := t1) (y := (0 : Int64)) hc89_2).1 ?_
        refine s_iconst (pc' := 93) (z := (1 : Int32)) X_51.here hx (hb hby d3_92) rfl rfl ?_
        refine s_goto (pc' := 97) X_51.here hx (hb hby d3_93) (by decide) (by decide) ?_
        refine winN X_51 hx hlk e_51 (t := .boolean) Bd.returns (by simp) (hb hby d3_97) (by decide) (by decide) (z' := (1 : Int32)) rfl ?_
        have e0 := own_hi (v := v0) (by omega) (by omega)
        have mA : ((((bit0 v0) ||| (0 : Int64)) ||| (0 : Int64)) ||| (0 : Int64)) = (0 : Int64) := by simp only [e0.1, e0.2, Int64.or_zero, Int64.zero_or]
        have mB : ((((bit1 v0) ||| (0 : Int64)) ||| (0 : Int64)) ||| (0 : Int64)) = mk1_0 := by rw [← hmk1_0]; simp only [e0.1, e0.2, Int64.or_zero, Int64.zero_or]
        have tt : (((0 : Int64) ||| (u0 &&& (((((bit0 v0) ||| (0 : Int64)) ||| (0 : Int64)) ||| (0 : Int64)) ^^^ (-1 : Int64)))) ||| (u1 &&& (((((bit1 v0) ||| (0 : Int64)) ||| (0 : Int64)) ||| (0 : Int64)) ^^^ (-1 : Int64)))) = t1 := by rw [mA, mB, show ((0 : Int64) ^^^ (-1 : Int64)) = -1 from by decide, ht0, ht1]
        refine ⟨Nf, Kp, by rw [mA, mB]; exact V_a, _, rfl, Or.inl ⟨rfl, ?_⟩⟩
        rw [tt]
        exact hc89_2
    · skip
      exfalso
      omega
theorem ef_3_2 (m : MethodId) (a : Addr) (b : Addr) : entryFrame m #[(.ref a), (.ref b)] 8 = mkF m 0 #[.val (.ref a), .val (.ref b), .unset, .unset, .unset, .unset, .unset, .unset] [] := by first | (simp [entryFrame, mkF, argsToLocals, Value.category]; done) | rfl
def Q3_2 (Z : State) (a : Addr) (b : Addr) (ka : ClassId) (u0 : Int64) (u1 : Int64) (kb : ClassId) (v0 : Int32) (v1 : Int32) (h0 : Heap) (n0 : Nat) (v : Option Value) (h : Heap) (L : List Loc) : Prop := Fr n0 L ∧ Keep h0 h [a] ∧ Arv Z h a ka .long (2 : Int32) [(.long (u0 &&& ((((bit0 v0) ||| (bit0 v1)) ||| (0 : Int64)) ||| (0 : Int64)))), (.long (u1 &&& ((((bit1 v0) ||| (bit1 v1)) ||| (0 : Int64)) ||| (0 : Int64))))] (.long (0 : Int64)) ∧ (∃ z : Int32, v = some (.int z) ∧ ((z.toInt = 1 ∧ (¬ ((((0 : Int64) ||| (u0 &&& (((((bit0 v0) ||| (bit0 v1)) ||| (0 : Int64)) ||| (0 : Int64)) ^^^ (-1 : Int64)))) ||| (u1 &&& (((((bit1 v0) ||| (bit1 v1)) ||| (0 : Int64)) ||| (0 : Int64)) ^^^ (-1 : Int64))))).toInt = 0)) ∨ (z.toInt = 0 ∧ ¬ (¬ ((((0 : Int64) ||| (u0 &&& (((((bit0 v0) ||| (bit0 v1)) ||| (0 : Int64)) ||| (0 : Int64)) ^^^ (-1 : Int64)))) ||| (u1 &&& (((((bit1 v0) ||| (bit1 v1)) ||| (0 : Int64)) ||| (0 : Int64)) ^^^ (-1 : Int64))))).toInt = 0))))
set_option maxRecDepth 65536 in
set_option maxHeartbeats 40000000 in
theorem rm3_2 (l : Launch) (Z : State) (a0 : Array Value) (hw : ∀ d ∈ tables_1, d.before a0 Z = true) (ws : List Jvm.Cond) (a : Addr) (b : Addr) (ka : ClassId) (u0 : Int64) (u1 : Int64) (kb : ClassId) (v0 : Int32) (v1 : Int32) (h0 : Heap) (n0 : Nat) (Zs : n0 ≤ h0.size) (V_a : Arv Z h0 a ka .long (2 : Int32) [(.long u0), (.long u1)] (.long (0 : Int64))) (V_b : Arv Z h0 b kb .int (2 : Int32) [(.int v0), (.int v1)] (.int (0 : Int32))) (g_a : n0 ≤ a) (ne_b_a : b ≠ a) (hv : 0 ≤ v0.toInt ∧ v0.toInt < v1.toInt ∧ v1.toInt < 128) :
    MetFree l (⟨"com/example/faithful_deputy/faithfuldeputy/Bits", "keepOnly", "([J[I)Z"⟩ : MethodName) (head1 (Jvm.Cond.code (⟨"com/example/faithful_deputy/faithfuldeputy/Bits", "keepOnly", "([J[I)Z"⟩ : MethodName) prog_2_method_8_code 8 (some .boolean) :: ws) ({ frames := 0, cells := 0, slots := 0, locals := 0 } : Room)) (fun as' U => as' = #[(.ref a), (.ref b)] ∧ Z.Warmed39 U.vm ∧ U.heap = h0) (fun _ _ _ _ _ => True) (fun _ U o U' => ∃ v L, o = .returned v ∧ Q3_2 Z a b ka u0 u1 kb v0 v1 h0 n0 v U'.heap L ∧ FrameEnd U o U' L ({ frames := 0, cells := 0, slots := 0, locals := 0 } : Room).cells ({ frames := 0, cells := 0, slots := 0, locals := 0 } : Room).slots) := by
  refine MetFree.of_bodySF (plainFor_of_name pn_3) hisR ?_
  intro p e s m args below meth c s₁ Bd hml0 hP hK
  obtain ⟨rfl, hZ, hh⟩ := hP
  have hx := Bd.exec
  have hby := Bd.bytes
  have hml : c.maxLocals = 8 := hml0
  have hown : s.vm.findClass "com/example/faithful_deputy/faithfuldeputy/Bits" = some m.cls := findClass_of_methodNamed Bd.named
  have hnm := (name_of_methodNamed Bd.named Bd.method).1
  have hlk : meth.locks = false := Bd.notSynchronized
  have X0 : Stand p l e ({ frames := 0, cells := 0, slots := 0, locals := 0 } : Room) s m #[(.ref a), (.ref b)] below meth c s₁ [] 0 0 := Stand.of_body Bd
  have e0 : s₁.heap = h0 := by rw [← hh, Bd.state]; rfl
  have Nf := Fr.nil n0
  refine (?_ : Win p.tables e below (PostQ s (Q3_2 Z a b ka u0 u1 kb v0 v1 h0 n0) ({ frames := 0, cells := 0, slots := 0, locals := 0 } : Room).cells ({ frames := 0, cells := 0, slots := 0, locals := 0 } : Room).slots) (s₁.setTop (entryFrame m #[(.ref a), (.ref b)] 8)))
  rw [ef_3_2]
  have Kp : Keep h0 h0 [a] := Keep.refl h0 _
  have lt_a : a < h0.size := V_a.lt
  have lt_b : b < h0.size := V_b.lt
  have d0 := own_d (v := v0) (by omega)
  have d1 := own_d (v := v1) (by omega)
  show Win p.tables e below _ (s₁.setTop (mkF m 0 #[.val (.ref a), .val (.ref b), .unset, .unset, .unset, .unset, .unset, .unset] []))
  refine s_lconst (pc' := 1) (z := (0 : Int64)) X0.here hx (hb hby d3_0) rfl rfl ?_
  refine s_lstoreN (pc' := 2) (l' := #[.val (.ref a), .val (.ref b), .val (.long (0 : Int64)), .second, .unset, .unset, .unset, .unset]) X0.here hx (hb hby d3_1) rfl rfl ?_
  refine s_iconst (pc' := 3) (z := (0 : Int32)) X0.here hx (hb hby d3_2) rfl rfl ?_
  refine s_istore (pc' := 5) (l' := #[.val (.ref a), .val (.ref b), .val (.long (0 : Int64)), .second, .val (.int (0 : Int32)), .unset, .unset, .unset]) X0.here hx (hb hby d3_3) rfl rfl ?_
  refine s_iconst (pc' := 6) (z := (0 : Int32)) X0.here hx (hb hby d3_5) rfl rfl ?_
  refine s_istore (pc' := 8) (l' := #[.val (.ref a), .val (.ref b), .val (.long (0 : Int64)), .second, .val (.int (0 : Int32)), .val (.int (0 : Int32)), .unset, .unset]) X0.here hx (hb hby d3_6) rfl rfl ?_
  refine s_iload (pc' := 10) X0.here hx (hb hby d3_8) rfl rfl ?_
  refine s_aloadN (pc' := 11) X0.here hx (hb hby d3_10) rfl rfl rfl ?_
  obtain ⟨cl_53, Ar_53, q_53, S_53, N_53, H_53, G_53⟩ := id V_a
  refine Win.go (fun _ k => X0.arraylength hx (by rw [e0]; exact Ar_53.1) (State.isArrayOf_alike hZ.alike Ar_53.2.1) (g := (mkF m 11 #[.val (.ref a), .val (.ref b), .val (.long (0 : Int64)), .second, .val (.int (0 : Int32)), .val (.int (0 : Int32)), .unset, .unset] [(.ref a), (.int (0 : Int32))])) rfl rfl (hb hby d3_11) _ k) ?_
  rw [len_of S_53 N_53]
  clear Ar_53 q_53 S_53 N_53 H_53 G_53
  show Win p.tables e below _ (s₁.setTop (mkF m 12 #[.val (.ref a), .val (.ref b), .val (.long (0 : Int64)), .second, .val (.int (0 : Int32)), .val (.int (0 : Int32)), .unset, .unset] [(.int (2 : Int32)), (.int (0 : Int32))]))
  refine s_icmpNo (pc' := 15) X0.here hx (hb hby d3_12) rfl (tltI (x := (0 : Int32)) (y := (2 : Int32)) (by decide)).2.1 ?_
  refine s_lconst (pc' := 16) (z := (0 : Int64)) X0.here hx (hb hby d3_15) rfl rfl ?_
  refine s_lstore (pc' := 18) (l' := #[.val (.ref a), .val (.ref b), .val (.long (0 : Int64)), .second, .val (.int (0 : Int32)), .val (.int (0 : Int32)), .val (.long (0 : Int64)), .second]) X0.here hx (hb hby d3_16) rfl rfl ?_
  refine s_iload (pc' := 20) X0.here hx (hb hby d3_18) rfl rfl ?_
  refine s_aloadN (pc' := 21) X0.here hx (hb hby d3_20) rfl rfl rfl ?_
  obtain ⟨cl_54, Ar_54, q_54, S_54, N_54, H_54, G_54⟩ := id V_b
  refine Win.go (fun _ k => X0.arraylength hx (by rw [e0]; exact Ar_54.1) (State.isArrayOf_alike hZ.alike Ar_54.2.1) (g := (mkF m 21 #[.val (.ref a), .val (.ref b), .val (.long (0 : Int64)), .second, .val (.int (0 : Int32)), .val (.int (0 : Int32)), .val (.long (0 : Int64)), .second] [(.ref b), (.int (0 : Int32))])) rfl rfl (hb hby d3_21) _ k) ?_
  rw [len_of S_54 N_54]
  clear Ar_54 q_54 S_54 N_54 H_54 G_54
  show Win p.tables e below _ (s₁.setTop (mkF m 22 #[.val (.ref a), .val (.ref b), .val (.long (0 : Int64)), .second, .val (.int (0 : Int32)), .val (.int (0 : Int32)), .val (.long (0 : Int64)), .second] [(.int (2 : Int32)), (.int (0 : Int32))]))
  refine s_icmpNo (pc' := 25) X0.here hx (hb hby d3_22) rfl (tltI (x := (0 : Int32)) (y := (2 : Int32)) (by decide)).2.1 ?_
  refine s_aloadN (pc' := 26) X0.here hx (hb hby d3_25) rfl rfl rfl ?_
  refine s_iload (pc' := 28) X0.here hx (hb hby d3_26) rfl rfl ?_
  obtain ⟨cl_55, Ar_55, q_55, S_55, N_55, H_55, G_55⟩ := id V_b
  have hi_55 : ¬ ((0 : Int32) < 0 ∨ cl_55.slots.size ≤ ((0 : Int32)).toNatClampNeg) := inb_of S_55 ⟨by decide, by decide⟩
  refine Win.go (fun _ k => X0.iaload hx (j := (0 : Int32)) (v := (.int v0)) (by rw [e0]; exact Ar_55.1) (State.isArrayOf_alike hZ.alike Ar_55.2.1) Ar_55.2.2 hi_55 (H_55.at hi_55 rfl) (g := (mkF m 28 #[.val (.ref a), .val (.ref b), .val (.long (0 : Int64)), .second, .val (.int (0 : Int32)), .val (.int (0 : Int32)), .val (.long (0 : Int64)), .second] [(.int (0 : Int32)), (.ref b)])) rfl rfl (hb hby d3_28) _ k) ?_
  show Win p.tables e below _ (s₁.setTop (mkF m 29 #[.val (.ref a), .val (.ref b), .val (.long (0 : Int64)), .second, .val (.int (0 : Int32)), .val (.int (0 : Int32)), .val (.long (0 : Int64)), .second] [(.int v0)]))
  clear Ar_55 q_55 S_55 N_55 H_55 G_55 hi_55
  refine s_bipush (pc' := 31) (z := (64 : Int32)) X0.here hx (hb hby d3_29) rfl rfl ?_
  refine Win.go (fun _ k => XS.idiv X0.here hx rfl (hb hby d3_31) rfl (by decide) k) ?_
  show Win p.tables e below _ (s₁.setTop (mkF m 32 #[.val (.ref a), .val (.ref b), .val (.long (0 : Int64)), .second, .val (.int (0 : Int32)), .val (.int (0 : Int32)), .val (.long (0 : Int64)), .second] [(.int (v0 / (64 : Int32)))]))
  refine s_iload (pc' := 34) X0.here hx (hb hby d3_32) rfl rfl ?_
  by_cases hc34_0 : ((v0 / (64 : Int32))).toInt = (0 : Int)
  · skip
    refine s_icmpNo (pc' := 37) X0.here hx (hb hby d3_34) rfl (teqI (x := (v0 / (64 : Int32))) (y := (0 : Int32)) hc34_0).2 ?_
    refine s_lload (pc' := 39) X0.here hx (hb hby d3_37) rfl rfl ?_
    refine s_lconst (pc' := 40) (z := (1 : Int64)) X0.here hx (hb hby d3_39) rfl rfl ?_
    refine s_aloadN (pc' := 41) X0.here hx (hb hby d3_40) rfl rfl rfl ?_
    refine s_iload (pc' := 43) X0.here hx (hb hby d3_41) rfl rfl ?_
    obtain ⟨cl_56, Ar_56, q_56, S_56, N_56, H_56, G_56⟩ := id V_b
    have hi_56 : ¬ ((0 : Int32) < 0 ∨ cl_56.slots.size ≤ ((0 : Int32)).toNatClampNeg) := inb_of S_56 ⟨by decide, by decide⟩
    refine Win.go (fun _ k => X0.iaload hx (j := (0 : Int32)) (v := (.int v0)) (by rw [e0]; exact Ar_56.1) (State.isArrayOf_alike hZ.alike Ar_56.2.1) Ar_56.2.2 hi_56 (H_56.at hi_56 rfl) (g := (mkF m 43 #[.val (.ref a), .val (.ref b), .val (.long (0 : Int64)), .second, .val (.int (0 : Int32)), .val (.int (0 : Int32)), .val (.long (0 : Int64)), .second] [(.int (0 : Int32)), (.ref b), (.long (1 : Int64)), (.long (0 : Int64))])) rfl rfl (hb hby d3_43) _ k) ?_
    show Win p.tables e below _ (s₁.setTop (mkF m 44 #[.val (.ref a), .val (.ref b), .val (.long (0 : Int64)), .second, .val (.int (0 : Int32)), .val (.int (0 : Int32)), .val (.long (0 : Int64)), .second] [(.int v0), (.long (1 : Int64)), (.long (0 : Int64))]))
    clear Ar_56 q_56 S_56 N_56 H_56 G_56 hi_56
    refine s_bipush (pc' := 46) (z := (64 : Int32)) X0.here hx (hb hby d3_44) rfl rfl ?_
    refine Win.go (fun _ k => iremM X0 hx rfl (hb hby d3_46) rfl (by decide) k) ?_
    show Win p.tables e below _ (s₁.setTop (mkF m 47 #[.val (.ref a), .val (.ref b), .val (.long (0 : Int64)), .second, .val (.int (0 : Int32)), .val (.int (0 : Int32)), .val (.long (0 : Int64)), .second] [(.int (v0 % (64 : Int32))), (.long (1 : Int64)), (.long (0 : Int64))]))
    refine Win.go (fun _ k => XT.lshl X0.here hx rfl (hb hby d3_47) rfl k) ?_
    show Win p.tables e below _ (s₁.setTop (mkF m 48 #[.val (.ref a), .val (.ref b), .val (.long (0 : Int64)), .second, .val (.int (0 : Int32)), .val (.int (0 : Int32)), .val (.long (0 : Int64)), .second] [(.long ((1 : Int64) <<< ((v0 % (64 : Int32)).toInt64 &&& 63))), (.long (0 : Int64))]))
    refine s_lor (pc' := 49) X0.here hx (hb hby d3_48) rfl ?_
    refine s_lstore (pc' := 51) (l' := #[.val (.ref a), .val (.ref b), .val (.long (0 : Int64)), .second, .val (.int (0 : Int32)), .val (.int (0 : Int32)), .val (.long ((0 : Int64) ||| ((1 : Int64) <<< ((v0 % (64 : Int32)).toInt64 &&& 63)))), .second]) X0.here hx (hb hby d3_49) rfl rfl ?_
    generalize hmk0_0 : ((0 : Int64) ||| ((1 : Int64) <<< ((v0 % (64 : Int32)).toInt64 &&& 63))) = mk0_0
    show Win p.tables e below _ (s₁.setTop (mkF m 51 #[.val (.ref a), .val (.ref b), .val (.long (0 : Int64)), .second, .val (.int (0 : Int32)), .val (.int (0 : Int32)), .val (.long mk0_0), .second] []))
    refine Win.go (fun _ k => XS.iinc X0.here hx rfl (hb hby d3_51) rfl (l' := #[.val (.ref a), .val (.ref b), .val (.long (0 : Int64)), .second, .val (.int (1 : Int32)), .val (.int (0 : Int32)), .val (.long mk0_0), .second]) rfl k) ?_
    show Win p.tables e below _ (s₁.setTop (mkF m 54 #[.val (.ref a), .val (.ref b), .val (.long (0 : Int64)), .second, .val (.int (1 : Int32)), .val (.int (0 : Int32)), .val (.long mk0_0), .second] []))
    refine s_goto (pc' := 18) X0.here hx (hb hby d3_54) (by decide) (by decide) ?_
    refine s_iload (pc' := 20) X0.here hx (hb hby d3_18) rfl rfl ?_
    refine s_aloadN (pc' := 21) X0.here hx (hb hby d3_20) rfl rfl rfl ?_
    obtain ⟨cl_57, Ar_57, q_57, S_57, N_57, H_57, G_57⟩ := id V_b
    refine Win.go (fun _ k => X0.arraylength hx (by rw [e0]; exact Ar_57.1) (State.isArrayOf_alike hZ.alike Ar_57.2.1) (g := (mkF m 21 #[.val (.ref a), .val (.ref b), .val (.long (0 : Int64)), .second, .val (.int (1 : Int32)), .val (.int (0 : Int32)), .val (.long mk0_0), .second] [(.ref b), (.int (1 : Int32))])) rfl rfl (hb hby d3_21) _ k) ?_
    rw [len_of S_57 N_57]
    clear Ar_57 q_57 S_57 N_57 H_57 G_57
    show Win p.tables e below _ (s₁.setTop (mkF m 22 #[.val (.ref a), .val (.ref b), .val (.long (0 : Int64)), .second, .val (.int (1 : Int32)), .val (.int (0 : Int32)), .val (.long mk0_0), .second] [(.int (2 : Int32)), (.int (1 : Int32))]))
    refine s_icmpNo (pc' := 25) X0.here hx (hb hby d3_22) rfl (tltI (x := (1 : Int32)) (y := (2 : Int32)) (by decide)).2.1 ?_
    refine s_aloadN (pc' := 26) X0.here hx (hb hby d3_25) rfl rfl rfl ?_
    refine s_iload (pc' := 28) X0.here hx (hb hby d3_26) rfl rfl ?_
    obtain ⟨cl_58, Ar_58, q_58, S_58, N_58, H_58, G_58⟩ := id V_b
    have hi_58 : ¬ ((1 : Int32) < 0 ∨ cl_58.slots.size ≤ ((1 : Int32)).toNatClampNeg) := inb_of S_58 ⟨by decide, by decide⟩
    refine Win.go (fun _ k => X0.iaload hx (j := (1 : Int32)) (v := (.int v1)) (by rw [e0]; exact Ar_58.1) (State.isArrayOf_alike hZ.alike Ar_58.2.1) Ar_58.2.2 hi_58 (H_58.at hi_58 rfl) (g := (mkF m 28 #[.val (.ref a), .val (.ref b), .val (.long (0 : Int64)), .second, .val (.int (1 : Int32)), .val (.int (0 : Int32)), .val (.long mk0_0), .second] [(.int (1 : Int32)), (.ref b)])) rfl rfl (hb hby d3_28) _ k) ?_
    show Win p.tables e below _ (s₁.setTop (mkF m 29 #[.val (.ref a), .val (.ref b), .val (.long (0 : Int64)), .second, .val (.int (1 : Int32)), .val (.int (0 : Int32)), .val (.long mk0_0), .second] [(.int v1)]))
    clear Ar_58 q_58 S_58 N_58 H_58 G_58 hi_58
    refine s_bipush (pc' := 31) (z := (64 : Int32)) X0.here hx (hb hby d3_29) rfl rfl ?_
    refine Win.go (fun _ k => XS.idiv X0.here hx rfl (hb hby d3_31) rfl (by decide) k) ?_
    show Win p.tables e below _ (s₁.setTop (mkF m 32 #[.val (.ref a), .val (.ref b), .val (.long (0 : Int64)), .second, .val (.int (1 : Int32)), .val (.int (0 : Int32)), .val (.long mk0_0), .second] [(.int (v1 / (64 : Int32)))]))
    refine s_iload (pc' := 34) X0.here hx (hb hby d3_32) rfl rfl ?_
    by_cases hc34_1 : ((v1 / (64 : Int32))).toInt = (0 : Int)
    · skip
      refine s_icmpNo (pc' := 37) X0.here hx (hb hby d3_34) rfl (teqI (x := (v1 / (64 : Int32))) (y := (0 : Int32)) hc34_1).2 ?_
      refine s_lload (pc' := 39) X0.here hx (hb hby d3_37) rfl rfl ?_
      refine s_lconst (pc' := 40) (z := (1 : Int64)) X0.here hx (hb hby d3_39) rfl rfl ?_
      refine s_aloadN (pc' := 41) X0.here hx (hb hby d3_40) rfl rfl rfl ?_
      refine s_iload (pc' := 43) X0.here hx (hb hby d3_41) rfl rfl ?_
      obtain ⟨cl_59, Ar_59, q_59, S_59, N_59, H_59, G_59⟩ := id V_b
      have hi_59 : ¬ ((1 : Int32) < 0 ∨ cl_59.slots.size ≤ ((1 : Int32)).toNatClampNeg) := inb_of S_59 ⟨by decide, by decide⟩
      refine Win.go (fun _ k => X0.iaload hx (j := (1 : Int32)) (v := (.int v1)) (by rw [e0]; exact Ar_59.1) (State.isArrayOf_alike hZ.alike Ar_59.2.1) Ar_59.2.2 hi_59 (H_59.at hi_59 rfl) (g := (mkF m 43 #[.val (.ref a), .val (.ref b), .val (.long (0 : Int64)), .second, .val (.int (1 : Int32)), .val (.int (0 : Int32)), .val (.long mk0_0), .second] [(.int (1 : Int32)), (.ref b), (.long (1 : Int64)), (.long mk0_0)])) rfl rfl (hb hby d3_43) _ k) ?_
      show Win p.tables e below _ (s₁.setTop (mkF m 44 #[.val (.ref a), .val (.ref b), .val (.long (0 : Int64)), .second, .val (.int (1 : Int32)), .val (.int (0 : Int32)), .val (.long mk0_0), .second] [(.int v1), (.long (1 : Int64)), (.long mk0_0)]))
      clear Ar_59 q_59 S_59 N_59 H_59 G_59 hi_59
      refine s_bipush (pc' := 46) (z := (64 : Int32)) X0.here hx (hb hby d3_44) rfl rfl ?_
      refine Win.go (fun _ k => iremM X0 hx rfl (hb hby d3_46) rfl (by decide) k) ?_
      show Win p.tables e below _ (s₁.setTop (mkF m 47 #[.val (.ref a), .val (.ref b), .val (.long (0 : Int64)), .second, .val (.int (1 : Int32)), .val (.int (0 : Int32)), .val (.long mk0_0), .second] [(.int (v1 % (64 : Int32))), (.long (1 : Int64)), (.long mk0_0)]))
      refine Win.go (fun _ k => XT.lshl X0.here hx rfl (hb hby d3_47) rfl k) ?_
      show Win p.tables e below _ (s₁.setTop (mkF m 48 #[.val (.ref a), .val (.ref b), .val (.long (0 : Int64)), .second, .val (.int (1 : Int32)), .val (.int (0 : Int32)), .val (.long mk0_0), .second] [(.long ((1 : Int64) <<< ((v1 % (64 : Int32)).toInt64 &&& 63))), (.long mk0_0)]))
      refine s_lor (pc' := 49) X0.here hx (hb hby d3_48) rfl ?_
      refine s_lstore (pc' := 51) (l' := #[.val (.ref a), .val (.ref b), .val (.long (0 : Int64)), .second, .val (.int (1 : Int32)), .val (.int (0 : Int32)), .val (.long (mk0_0 ||| ((1 : Int64) <<< ((v1 % (64 : Int32)).toInt64 &&& 63)))), .second]) X0.here hx (hb hby d3_49) rfl rfl ?_
      generalize hmk0_1 : (mk0_0 ||| ((1 : Int64) <<< ((v1 % (64 : Int32)).toInt64 &&& 63))) = mk0_1
      show Win p.tables e below _ (s₁.setTop (mkF m 51 #[.val (.ref a), .val (.ref b), .val (.long (0 : Int64)), .second, .val (.int (1 : Int32)), .val (.int (0 : Int32)), .val (.long mk0_1), .second] []))
      refine Win.go (fun _ k => XS.iinc X0.here hx rfl (hb hby d3_51) rfl (l' := #[.val (.ref a), .val (.ref b), .val (.long (0 : Int64)), .second, .val (.int (2 : Int32)), .val (.int (0 : Int32)), .val (.long mk0_1), .second]) rfl k) ?_
      show Win p.tables e below _ (s₁.setTop (mkF m 54 #[.val (.ref a), .val (.ref b), .val (.long (0 : Int64)), .second, .val (.int (2 : Int32)), .val (.int (0 : Int32)), .val (.long mk0_1), .second] []))
      refine s_goto (pc' := 18) X0.here hx (hb hby d3_54) (by decide) (by decide) ?_
      refine s_iload (pc' := 20) X0.here hx (hb hby d3_18) rfl rfl ?_
      refine s_aloadN (pc' := 21) X0.here hx (hb hby d3_20) rfl rfl rfl ?_
      obtain ⟨cl_60, Ar_60, q_60, S_60, N_60, H_60, G_60⟩ := id V_b
      refine Win.go (fun _ k => X0.arraylength hx (by rw [e0]; exact Ar_60.1) (State.isArrayOf_alike hZ.alike Ar_60.2.1) (g := (mkF m 21 #[.val (.ref a), .val (.ref b), .val (.long (0 : Int64)), .second, .val (.int (2 : Int32)), .val (.int (0 : Int32)), .val (.long mk0_1), .second] [(.ref b), (.int (2 : Int32))])) rfl rfl (hb hby d3_21) _ k) ?_
      rw [len_of S_60 N_60]
      clear Ar_60 q_60 S_60 N_60 H_60 G_60
      show Win p.tables e below _ (s₁.setTop (mkF m 22 #[.val (.ref a), .val (.ref b), .val (.long (0 : Int64)), .second, .val (.int (2 : Int32)), .val (.int (0 : Int32)), .val (.long mk0_1), .second] [(.int (2 : Int32)), (.int (2 : Int32))]))
      refine s_icmpYes (pc' := 57) X0.here hx (hb hby d3_22) (fltI (x := (2 : Int32)) (y := (2 : Int32)) (by decide)).2.1 (by decide) (by decide) ?_
      refine s_lloadN (pc' := 58) X0.here hx (hb hby d3_57) rfl rfl ?_
      refine s_aloadN (pc' := 59) X0.here hx (hb hby d3_58) rfl rfl rfl ?_
      refine s_iload (pc' := 61) X0.here hx (hb hby d3_59) rfl rfl ?_
      obtain ⟨cl_61, Ar_61, q_61, S_61, N_61, H_61, G_61⟩ := id V_a
      have hi_61 : ¬ ((0 : Int32) < 0 ∨ cl_61.slots.size ≤ ((0 : Int32)).toNatClampNeg) := inb_of S_61 ⟨by decide, by decide⟩
      refine Win.go (fun _ k => X0.laload hx (j := (0 : Int32)) (v := (.long u0)) (by rw [e0]; exact Ar_61.1) (State.isArrayOf_alike hZ.alike Ar_61.2.1) Ar_61.2.2 hi_61 (H_61.at hi_61 rfl) (g := (mkF m 61 #[.val (.ref a), .val (.ref b), .val (.long (0 : Int64)), .second, .val (.int (2 : Int32)), .val (.int (0 : Int32)), .val (.long mk0_1), .second] [(.int (0 : Int32)), (.ref a), (.long (0 : Int64))])) rfl rfl (hb hby d3_61) _ k) ?_
      show Win p.tables e below _ (s₁.setTop (mkF m 62 #[.val (.ref a), .val (.ref b), .val (.long (0 : Int64)), .second, .val (.int (2 : Int32)), .val (.int (0 : Int32)), .val (.long mk0_1), .second] [(.long u0), (.long (0 : Int64))]))
      clear Ar_61 q_61 S_61 N_61 H_61 G_61 hi_61
      refine s_lload (pc' := 64) X0.here hx (hb hby d3_62) rfl rfl ?_
      refine Win.go (fun _ k => X0.ldc2Long hx hown (mvT hZ (hw _ (List.mem_of_getElem? (i := 14) rfl))) (g := (mkF m 64 #[.val (.ref a), .val (.ref b), .val (.long (0 : Int64)), .second, .val (.int (2 : Int32)), .val (.int (0 : Int32)), .val (.long mk0_1), .second] [(.long mk0_1), (.long u0), (.long (0 : Int64))])) rfl (hb hby d3_64) _ k) ?_
      show Win p.tables e below _ (s₁.setTop (mkF m 67 #[.val (.ref a), .val (.ref b), .val (.long (0 : Int64)), .second, .val (.int (2 : Int32)), .val (.int (0 : Int32)), .val (.long mk0_1), .second] [(.long (-1 : Int64)), (.long mk0_1), (.long u0), (.long (0 : Int64))]))
      refine s_lxor (pc' := 68) X0.here hx (hb hby d3_67) rfl ?_
      refine s_land (pc' := 69) X0.here hx (hb hby d3_68) rfl ?_
      refine s_lor (pc' := 70) X0.here hx (hb hby d3_69) rfl ?_
      refine s_lstoreN (pc' := 71) (l' := #[.val (.ref a), .val (.ref b), .val (.long ((0 : Int64) ||| (u0 &&& (mk0_1 ^^^ (-1 : Int64))))), .second, .val (.int (2 : Int32)), .val (.int (0 : Int32)), .val (.long mk0_1), .second]) X0.here hx (hb hby d3_70) rfl rfl ?_
      generalize ht0 : ((0 : Int64) ||| (u0 &&& (mk0_1 ^^^ (-1 : Int64)))) = t0
      show Win p.tables e below _ (s₁.setTop (mkF m 71 #[.val (.ref a), .val (.ref b), .val (.long t0), .second, .val (.int (2 : Int32)), .val (.int (0 : Int32)), .val (.long mk0_1), .second] []))
      refine s_aloadN (pc' := 72) X0.here hx (hb hby d3_71) rfl rfl rfl ?_
      refine s_iload (pc' := 74) X0.here hx (hb hby d3_72) rfl rfl ?_
      refine Win.go (fun _ k => XT.dup2 X0.here hx rfl (hb hby d3_74) rfl rfl rfl k) ?_
      show Win p.tables e below _ (s₁.setTop (mkF m 75 #[.val (.ref a), .val (.ref b), .val (.long t0), .second, .val (.int (2 : Int32)), .val (.int (0 : Int32)), .val (.long mk0_1), .second] [(.int (0 : Int32)), (.ref a), (.int (0 : Int32)), (.ref a)]))
      obtain ⟨cl_62, Ar_62, q_62, S_62, N_62, H_62, G_62⟩ := id V_a
      have hi_62 : ¬ ((0 : Int32) < 0 ∨ cl_62.slots.size ≤ ((0 : Int32)).toNatClampNeg) := inb_of S_62 ⟨by decide, by decide⟩
      refine Win.go (fun _ k => X0.laload hx (j := (0 : Int32)) (v := (.long u0)) (by rw [e0]; exact Ar_62.1) (State.isArrayOf_alike hZ.alike Ar_62.2.1) Ar_62.2.2 hi_62 (H_62.at hi_62 rfl) (g := (mkF m 75 #[.val (.ref a), .val (.ref b), .val (.long t0), .second, .val (.int (2 : Int32)), .val (.int (0 : Int32)), .val (.long mk0_1), .second] [(.int (0 : Int32)), (.ref a), (.int (0 : Int32)), (.ref a)])) rfl rfl (hb hby d3_75) _ k) ?_
      show Win p.tables e below _ (s₁.setTop (mkF m 76 #[.val (.ref a), .val (.ref b), .val (.long t0), .second, .val (.int (2 : Int32)), .val (.int (0 : Int32)), .val (.long mk0_1), .second] [(.long u0), (.int (0 : Int32)), (.ref a)]))
      clear Ar_62 q_62 S_62 N_62 H_62 G_62 hi_62
      refine s_lload (pc' := 78) X0.here hx (hb hby d3_76) rfl rfl ?_
      refine s_land (pc' := 79) X0.here hx (hb hby d3_78) rfl ?_
      obtain ⟨cl_63, Ar_63, q_63, S_63, N_63, H_63, G_63⟩ := V_a
      obtain ⟨T_63, h_63, X_63, e_63, W_63, st_63⟩ := stJ X0 hx hZ e0 Ar_63 (j := (0 : Int32)) (inb_of S_63 ⟨by decide, by decide⟩) (g := (mkF m 79 #[.val (.ref a), .val (.ref b), .val (.long t0), .second, .val (.int (2 : Int32)), .val (.int (0 : Int32)), .val (.long mk0_1), .second] [(.long (u0 &&& mk0_1)), (.int (0 : Int32)), (.ref a)])) rfl rfl (hb hby d3_79)
      have V_63 := Arv.set Ar_63 q_63 S_63 N_63 H_63 G_63 rfl W_63 0 rfl (Nat.le_of_ble_eq_true rfl)
      replace V_b := V_b.other W_63 ne_b_a
      replace lt_a := Nat.lt_of_lt_of_le lt_a (Keep.of_wr W_63).1
      replace lt_b := Nat.lt_of_lt_of_le lt_b (Keep.of_wr W_63).1
      replace Zs := Nat.le_trans Zs (Keep.of_wr W_63).1
      replace Kp := Kp.wr W_63 (Or.inl (by simp))
      replace V_a : Arv Z h_63 a ka .long (2 : Int32) [(.long (u0 &&& mk0_1)), (.long u1)] (.long (0 : Int64)) := V_63
      replace Nf := Fr.snoc X_63 Nf g_a
      refine Win.go st_63 ?_
      clear st_63 W_63 V_63 Ar_63 q_63 S_63 N_63 H_63 G_63 X0 e0
      show Win p.tables e below _ (T_63.setTop (mkF m 80 #[.val (.ref a), .val (.ref b), .val (.long t0), .second, .val (.int (2 : Int32)), .val (.int (0 : Int32)), .val (.long mk0_1), .second] []))
      refine Win.go (fun _ k => XS.iinc X_63.here hx rfl (hb hby d3_80) rfl (l' := #[.val (.ref a), .val (.ref b), .val (.long t0), .second, .val (.int (2 : Int32)), .val (.int (1 : Int32)), .val (.long mk0_1), .second]) rfl k) ?_
      show Win p.tables e below _ (T_63.setTop (mkF m 83 #[.val (.ref a), .val (.ref b), .val (.long t0), .second, .val (.int (2 : Int32)), .val (.int (1 : Int32)), .val (.long mk0_1), .second] []))
      refine s_goto (pc' := 8) X_63.here hx (hb hby d3_83) (by decide) (by decide) ?_
      refine s_iload (pc' := 10) X_63.here hx (hb hby d3_8) rfl rfl ?_
      refine s_aloadN (pc' := 11) X_63.here hx (hb hby d3_10) rfl rfl rfl ?_
      obtain ⟨cl_64, Ar_64, q_64, S_64, N_64, H_64, G_64⟩ := id V_a
      refine Win.go (fun _ k => X_63.arraylength hx (by rw [e_63]; exact Ar_64.1) (State.isArrayOf_alike hZ.alike Ar_64.2.1) (g := (mkF m 11 #[.val (.ref a), .val (.ref b), .val (.long t0), .second, .val (.int (2 : Int32)), .val (.int (1 : Int32)), .val (.long mk0_1), .second] [(.ref a), (.int (1 : Int32))])) rfl rfl (hb hby d3_11) _ k) ?_
      rw [len_of S_64 N_64]
      clear Ar_64 q_64 S_64 N_64 H_64 G_64
      show Win p.tables e below _ (T_63.setTop (mkF m 12 #[.val (.ref a), .val (.ref b), .val (.long t0), .second, .val (.int (2 : Int32)), .val (.int (1 : Int32)), .val (.long mk0_1), .second] [(.int (2 : Int32)), (.int (1 : Int32))]))
      refine s_icmpNo (pc' := 15) X_63.here hx (hb hby d3_12) rfl (tltI (x := (1 : Int32)) (y := (2 : Int32)) (by decide)).2.1 ?_
      refine s_lconst (pc' := 16) (z := (0 : Int64)) X_63.here hx (hb hby d3_15) rfl rfl ?_
      refine s_lstore (pc' := 18) (l' := #[.val (.ref a), .val (.ref b), .val (.long t0), .second, .val (.int (2 : Int32)), .val (.int (1 : Int32)), .val (.long (0 : Int64)), .second]) X_63.here hx (hb hby d3_16) rfl rfl ?_
      refine s_iload (pc' := 20) X_63.here hx (hb hby d3_18) rfl rfl ?_
      refine s_aloadN (pc' := 21) X_63.here hx (hb hby d3_20) rfl rfl rfl ?_
      obtain ⟨cl_65, Ar_65, q_65, S_65, N_65, H_65, G_65⟩ := id V_b
      refine Win.go (fun _ k => X_63.arraylength hx (by rw [e_63]; exact Ar_65.1) (State.isArrayOf_alike hZ.alike Ar_65.2.1) (g := (mkF m 21 #[.val (.ref a), .val (.ref b), .val (.long t0), .second, .val (.int (2 : Int32)), .val (.int (1 : Int32)), .val (.long (0 : Int64)), .second] [(.ref b), (.int (2 : Int32))])) rfl rfl (hb hby d3_21) _ k) ?_
      rw [len_of S_65 N_65]
      clear Ar_65 q_65 S_65 N_65 H_65 G_65
      show Win p.tables e below _ (T_63.setTop (mkF m 22 #[.val (.ref a), .val (.ref b), .val (.long t0), .second, .val (.int (2 : Int32)), .val (.int (1 : Int32)), .val (.long (0 : Int64)), .second] [(.int (2 : Int32)), (.int (2 : Int32))]))
      refine s_icmpYes (pc' := 57) X_63.here hx (hb hby d3_22) (fltI (x := (2 : Int32)) (y := (2 : Int32)) (by decide)).2.1 (by decide) (by decide) ?_
      refine s_lloadN (pc' := 58) X_63.here hx (hb hby d3_57) rfl rfl ?_
      refine s_aloadN (pc' := 59) X_63.here hx (hb hby d3_58) rfl rfl rfl ?_
      refine s_iload (pc' := 61) X_63.here hx (hb hby d3_59) rfl rfl ?_
      obtain ⟨cl_66, Ar_66, q_66, S_66, N_66, H_66, G_66⟩ := id V_a
      have hi_66 : ¬ ((1 : Int32) < 0 ∨ cl_66.slots.size ≤ ((1 : Int32)).toNatClampNeg) := inb_of S_66 ⟨by decide, by decide⟩
      refine Win.go (fun _ k => X_63.laload hx (j := (1 : Int32)) (v := (.long u1)) (by rw [e_63]; exact Ar_66.1) (State.isArrayOf_alike hZ.alike Ar_66.2.1) Ar_66.2.2 hi_66 (H_66.at hi_66 rfl) (g := (mkF m 61 #[.val (.ref a), .val (.ref b), .val (.long t0), .second, .val (.int (2 : Int32)), .val (.int (1 : Int32)), .val (.long (0 : Int64)), .second] [(.int (1 : Int32)), (.ref a), (.long t0)])) rfl rfl (hb hby d3_61) _ k) ?_
      show Win p.tables e below _ (T_63.setTop (mkF m 62 #[.val (.ref a), .val (.ref b), .val (.long t0), .second, .val (.int (2 : Int32)), .val (.int (1 : Int32)), .val (.long (0 : Int64)), .second] [(.long u1), (.long t0)]))
      clear Ar_66 q_66 S_66 N_66 H_66 G_66 hi_66
      refine s_lload (pc' := 64) X_63.here hx (hb hby d3_62) rfl rfl ?_
      refine Win.go (fun _ k => X_63.ldc2Long hx hown (mvT hZ (hw _ (List.mem_of_getElem? (i := 14) rfl))) (g := (mkF m 64 #[.val (.ref a), .val (.ref b), .val (.long t0), .second, .val (.int (2 : Int32)), .val (.int (1 : Int32)), .val (.long (0 : Int64)), .second] [(.long (0 : Int64)), (.long u1), (.long t0)])) rfl (hb hby d3_64) _ k) ?_
      show Win p.tables e below _ (T_63.setTop (mkF m 67 #[.val (.ref a), .val (.ref b), .val (.long t0), .second, .val (.int (2 : Int32)), .val (.int (1 : Int32)), .val (.long (0 : Int64)), .second] [(.long (-1 : Int64)), (.long (0 : Int64)), (.long u1), (.long t0)]))
      refine Win.go (fun _ k => XS.lxor X_63.here hx rfl (hb hby d3_67) rfl k) ?_
      show Win p.tables e below _ (T_63.setTop (mkF m 68 #[.val (.ref a), .val (.ref b), .val (.long t0), .second, .val (.int (2 : Int32)), .val (.int (1 : Int32)), .val (.long (0 : Int64)), .second] [(.long (-1 : Int64)), (.long u1), (.long t0)]))
      refine s_land (pc' := 69) X_63.here hx (hb hby d3_68) rfl ?_
      refine s_lor (pc' := 70) X_63.here hx (hb hby d3_69) rfl ?_
      refine s_lstoreN (pc' := 71) (l' := #[.val (.ref a), .val (.ref b), .val (.long (t0 ||| (u1 &&& (-1 : Int64)))), .second, .val (.int (2 : Int32)), .val (.int (1 : Int32)), .val (.long (0 : Int64)), .second]) X_63.here hx (hb hby d3_70) rfl rfl ?_
      generalize ht1 : (t0 ||| (u1 &&& (-1 : Int64))) = t1
      show Win p.tables e below _ (T_63.setTop (mkF m 71 #[.val (.ref a), .val (.ref b), .val (.long t1), .second, .val (.int (2 : Int32)), .val (.int (1 : Int32)), .val (.long (0 : Int64)), .second] []))
      refine s_aloadN (pc' := 72) X_63.here hx (hb hby d3_71) rfl rfl rfl ?_
      refine s_iload (pc' := 74) X_63.here hx (hb hby d3_72) rfl rfl ?_
      refine Win.go (fun _ k => XT.dup2 X_63.here hx rfl (hb hby d3_74) rfl rfl rfl k) ?_
      show Win p.tables e below _ (T_63.setTop (mkF m 75 #[.val (.ref a), .val (.ref b), .val (.long t1), .second, .val (.int (2 : Int32)), .val (.int (1 : Int32)), .val (.long (0 : Int64)), .second] [(.int (1 : Int32)), (.ref a), (.int (1 : Int32)), (.ref a)]))
      obtain ⟨cl_67, Ar_67, q_67, S_67, N_67, H_67, G_67⟩ := id V_a
      have hi_67 : ¬ ((1 : Int32) < 0 ∨ cl_67.slots.size ≤ ((1 : Int32)).toNatClampNeg) := inb_of S_67 ⟨by decide, by decide⟩
      refine Win.go (fun _ k => X_63.laload hx (j := (1 : Int32)) (v := (.long u1)) (by rw [e_63]; exact Ar_67.1) (State.isArrayOf_alike hZ.alike Ar_67.2.1) Ar_67.2.2 hi_67 (H_67.at hi_67 rfl) (g := (mkF m 75 #[.val (.ref a), .val (.ref b), .val (.long t1), .second, .val (.int (2 : Int32)), .val (.int (1 : Int32)), .val (.long (0 : Int64)), .second] [(.int (1 : Int32)), (.ref a), (.int (1 : Int32)), (.ref a)])) rfl rfl (hb hby d3_75) _ k) ?_
      show Win p.tables e below _ (T_63.setTop (mkF m 76 #[.val (.ref a), .val (.ref b), .val (.long t1), .second, .val (.int (2 : Int32)), .val (.int (1 : Int32)), .val (.long (0 : Int64)), .second] [(.long u1), (.int (1 : Int32)), (.ref a)]))
      clear Ar_67 q_67 S_67 N_67 H_67 G_67 hi_67
      refine s_lload (pc' := 78) X_63.here hx (hb hby d3_76) rfl rfl ?_
      refine s_land (pc' := 79) X_63.here hx (hb hby d3_78) rfl ?_
      obtain ⟨cl_68, Ar_68, q_68, S_68, N_68, H_68, G_68⟩ := V_a
      obtain ⟨T_68, h_68, X_68, e_68, W_68, st_68⟩ := stJ X_63 hx hZ e_63 Ar_68 (j := (1 : Int32)) (inb_of S_68 ⟨by decide, by decide⟩) (g := (mkF m 79 #[.val (.ref a), .val (.ref b), .val (.long t1), .second, .val (.int (2 : Int32)), .val (.int (1 : Int32)), .val (.long (0 : Int64)), .second] [(.long (u1 &&& (0 : Int64))), (.int (1 : Int32)), (.ref a)])) rfl rfl (hb hby d3_79)
      have V_68 := Arv.set Ar_68 q_68 S_68 N_68 H_68 G_68 rfl W_68 1 rfl (Nat.le_of_ble_eq_true rfl)
      replace V_b := V_b.other W_68 ne_b_a
      replace lt_a := Nat.lt_of_lt_of_le lt_a (Keep.of_wr W_68).1
      replace lt_b := Nat.lt_of_lt_of_le lt_b (Keep.of_wr W_68).1
      replace Zs := Nat.le_trans Zs (Keep.of_wr W_68).1
      replace Kp := Kp.wr W_68 (Or.inl (by simp))
      replace V_a : Arv Z h_68 a ka .long (2 : Int32) [(.long (u0 &&& mk0_1)), (.long (u1 &&& (0 : Int64)))] (.long (0 : Int64)) := V_68
      replace Nf := Fr.snoc X_68 Nf g_a
      refine Win.go st_68 ?_
      clear st_68 W_68 V_68 Ar_68 q_68 S_68 N_68 H_68 G_68 X_63 e_63
      show Win p.tables e below _ (T_68.setTop (mkF m 80 #[.val (.ref a), .val (.ref b), .val (.long t1), .second, .val (.int (2 : Int32)), .val (.int (1 : Int32)), .val (.long (0 : Int64)), .second] []))
      refine Win.go (fun _ k => XS.iinc X_68.here hx rfl (hb hby d3_80) rfl (l' := #[.val (.ref a), .val (.ref b), .val (.long t1), .second, .val (.int (2 : Int32)), .val (.int (2 : Int32)), .val (.long (0 : Int64)), .second]) rfl k) ?_
      show Win p.tables e below _ (T_68.setTop (mkF m 83 #[.val (.ref a), .val (.ref b), .val (.long t1), .second, .val (.int (2 : Int32)), .val (.int (2 : Int32)), .val (.long (0 : Int64)), .second] []))
      refine s_goto (pc' := 8) X_68.here hx (hb hby d3_83) (by decide) (by decide) ?_
      refine s_iload (pc' := 10) X_68.here hx (hb hby d3_8) rfl rfl ?_
      refine s_aloadN (pc' := 11) X_68.here hx (hb hby d3_10) rfl rfl rfl ?_
      obtain ⟨cl_69, Ar_69, q_69, S_69, N_69, H_69, G_69⟩ := id V_a
      refine Win.go (fun _ k => X_68.arraylength hx (by rw [e_68]; exact Ar_69.1) (State.isArrayOf_alike hZ.alike Ar_69.2.1) (g := (mkF m 11 #[.val (.ref a), .val (.ref b), .val (.long t1), .second, .val (.int (2 : Int32)), .val (.int (2 : Int32)), .val (.long (0 : Int64)), .second] [(.ref a), (.int (2 : Int32))])) rfl rfl (hb hby d3_11) _ k) ?_
      rw [len_of S_69 N_69]
      clear Ar_69 q_69 S_69 N_69 H_69 G_69
      show Win p.tables e below _ (T_68.setTop (mkF m 12 #[.val (.ref a), .val (.ref b), .val (.long t1), .second, .val (.int (2 : Int32)), .val (.int (2 : Int32)), .val (.long (0 : Int64)), .second] [(.int (2 : Int32)), (.int (2 : Int32))]))
      refine s_icmpYes (pc' := 86) X_68.here hx (hb hby d3_12) (fltI (x := (2 : Int32)) (y := (2 : Int32)) (by decide)).2.1 (by decide) (by decide) ?_
      refine s_lloadN (pc' := 87) X_68.here hx (hb hby d3_86) rfl rfl ?_
      refine s_lconst (pc' := 88) (z := (0 : Int64)) X_68.here hx (hb hby d3_87) rfl rfl ?_
      refine s_lcmp (pc' := 89) X_68.here hx (hb hby d3_88) rfl ?_
      by_cases hc89_2 : (t1).toInt = (0 : Int)
      · skip
        refine s_ifYes (pc' := 96) X_68.here hx (hb hby d3_89) (teqL (x := t1) (y := (0 : Int64)) hc89_2).1 (by decide) (by decide) ?_
        refine s_iconst (pc' := 97) (z := (0 : Int32)) X_68.here hx (hb hby d3_96) rfl rfl ?_
        refine winN X_68 hx hlk e_68 (t := .boolean) Bd.returns (by simp) (hb hby d3_97) (by decide) (by decide) (z' := (0 : Int32)) rfl ?_
        have e0 := own_lo (v := v0) (by omega) (by omega)
        have e1 := own_lo (v := v1) (by omega) (by omega)
        have mA : ((((bit0 v0) ||| (bit0 v1)) ||| (0 : Int64)) ||| (0 : Int64)) = mk0_1 := by rw [← hmk0_1, ← hmk0_0]; simp only [e0.1, e0.2, e1.1, e1.2, Int64.or_zero, Int64.zero_or]
        have mB : ((((bit1 v0) ||| (bit1 v1)) ||| (0 : Int64)) ||| (0 : Int64)) = (0 : Int64) := by simp only [e0.1, e0.2, e1.1, e1.2, Int64.or_zero, Int64.zero_or]
        have tt : (((0 : Int64) ||| (u0 &&& (((((bit0 v0) ||| (bit0 v1)) ||| (0 : Int64)) ||| (0 : Int64)) ^^^ (-1 : Int64)))) ||| (u1 &&& (((((bit1 v0) ||| (bit1 v1)) ||| (0 : Int64)) ||| (0 : Int64)) ^^^ (-1 : Int64)))) = t1 := by rw [mA, mB, show ((0 : Int64) ^^^ (-1 : Int64)) = -1 from by decide, ht0, ht1]
        refine ⟨Nf, Kp, by rw [mA, mB]; exact V_a, _, rfl, Or.inr ⟨rfl, ?_⟩⟩
        rw [tt]
        exact fun q => q hc89_2
      · skip
        refine s_ifNo (pc' := 92) X_68.here hx (hb hby d3_89) rfl (feqL (x := t1) (y := (0 : Int64)) hc89_2).1 ?_
        refine s_iconst (pc' := 93) (z := (1 : Int32)) X_68.here hx (hb hby d3_92) rfl rfl ?_
        refine s_goto (pc' := 97) X_68.here hx (hb hby d3_93) (by decide) (by decide) ?_
        refine winN X_68 hx hlk e_68 (t := .boolean) Bd.returns (by simp) (hb hby d3_97) (by decide) (by decide) (z' := (1 : Int32)) rfl ?_
        have e0 := own_lo (v := v0) (by omega) (by omega)
        have e1 := own_lo (v := v1) (by omega) (by omega)
        have mA : ((((bit0 v0) ||| (bit0 v1)) ||| (0 : Int64)) ||| (0 : Int64)) = mk0_1 := by rw [← hmk0_1, ← hmk0_0]; simp only [e0.1, e0.2, e1.1, e1.2, Int64.or_zero, Int64.zero_or]
        have mB : ((((bit1 v0) ||| (bit1 v1)) ||| (0 : Int64)) ||| (0 : Int64)) = (0 : Int64) := by simp only [e0.1, e0.2, e1.1, e1.2, Int64.or_zero, Int64.zero_or]
        have tt : (((0 : Int64) ||| (u0 &&& (((((bit0 v0) ||| (bit0 v1)) ||| (0 : Int64)) ||| (0 : Int64)) ^^^ (-1 : Int64)))) ||| (u1 &&& (((((bit1 v0) ||| (bit1 v1)) ||| (0 : Int64)) ||| (0 : Int64)) ^^^ (-1 : Int64)))) = t1 := by rw [mA, mB, show ((0 : Int64) ^^^ (-1 : Int64)) = -1 from by decide, ht0, ht1]
        refine ⟨Nf, Kp, by rw [mA, mB]; exact V_a, _, rfl, Or.inl ⟨rfl, ?_⟩⟩
        rw [tt]
        exact hc89_2
    · skip
      refine s_icmpYes (pc' := 57) X0.here hx (hb hby d3_34) (feqI (x := (v1 / (64 : Int32))) (y := (0 : Int32)) hc34_1).2 (by decide) (by decide) ?_
      refine s_lloadN (pc' := 58) X0.here hx (hb hby d3_57) rfl rfl ?_
      refine s_aloadN (pc' := 59) X0.here hx (hb hby d3_58) rfl rfl rfl ?_
      refine s_iload (pc' := 61) X0.here hx (hb hby d3_59) rfl rfl ?_
      obtain ⟨cl_70, Ar_70, q_70, S_70, N_70, H_70, G_70⟩ := id V_a
      have hi_70 : ¬ ((0 : Int32) < 0 ∨ cl_70.slots.size ≤ ((0 : Int32)).toNatClampNeg) := inb_of S_70 ⟨by decide, by decide⟩
      refine Win.go (fun _ k => X0.laload hx (j := (0 : Int32)) (v := (.long u0)) (by rw [e0]; exact Ar_70.1) (State.isArrayOf_alike hZ.alike Ar_70.2.1) Ar_70.2.2 hi_70 (H_70.at hi_70 rfl) (g := (mkF m 61 #[.val (.ref a), .val (.ref b), .val (.long (0 : Int64)), .second, .val (.int (1 : Int32)), .val (.int (0 : Int32)), .val (.long mk0_0), .second] [(.int (0 : Int32)), (.ref a), (.long (0 : Int64))])) rfl rfl (hb hby d3_61) _ k) ?_
      show Win p.tables e below _ (s₁.setTop (mkF m 62 #[.val (.ref a), .val (.ref b), .val (.long (0 : Int64)), .second, .val (.int (1 : Int32)), .val (.int (0 : Int32)), .val (.long mk0_0), .second] [(.long u0), (.long (0 : Int64))]))
      clear Ar_70 q_70 S_70 N_70 H_70 G_70 hi_70
      refine s_lload (pc' := 64) X0.here hx (hb hby d3_62) rfl rfl ?_
      refine Win.go (fun _ k => X0.ldc2Long hx hown (mvT hZ (hw _ (List.mem_of_getElem? (i := 14) rfl))) (g := (mkF m 64 #[.val (.ref a), .val (.ref b), .val (.long (0 : Int64)), .second, .val (.int (1 : Int32)), .val (.int (0 : Int32)), .val (.long mk0_0), .second] [(.long mk0_0), (.long u0), (.long (0 : Int64))])) rfl (hb hby d3_64) _ k) ?_
      show Win p.tables e below _ (s₁.setTop (mkF m 67 #[.val (.ref a), .val (.ref b), .val (.long (0 : Int64)), .second, .val (.int (1 : Int32)), .val (.int (0 : Int32)), .val (.long mk0_0), .second] [(.long (-1 : Int64)), (.long mk0_0), (.long u0), (.long (0 : Int64))]))
      refine s_lxor (pc' := 68) X0.here hx (hb hby d3_67) rfl ?_
      refine s_land (pc' := 69) X0.here hx (hb hby d3_68) rfl ?_
      refine s_lor (pc' := 70) X0.here hx (hb hby d3_69) rfl ?_
      refine s_lstoreN (pc' := 71) (l' := #[.val (.ref a), .val (.ref b), .val (.long ((0 : Int64) ||| (u0 &&& (mk0_0 ^^^ (-1 : Int64))))), .second, .val (.int (1 : Int32)), .val (.int (0 : Int32)), .val (.long mk0_0), .second]) X0.here hx (hb hby d3_70) rfl rfl ?_
      generalize ht0 : ((0 : Int64) ||| (u0 &&& (mk0_0 ^^^ (-1 : Int64)))) = t0
      show Win p.tables e below _ (s₁.setTop (mkF m 71 #[.val (.ref a), .val (.ref b), .val (.long t0), .second, .val (.int (1 : Int32)), .val (.int (0 : Int32)), .val (.long mk0_0), .second] []))
      refine s_aloadN (pc' := 72) X0.here hx (hb hby d3_71) rfl rfl rfl ?_
      refine s_iload (pc' := 74) X0.here hx (hb hby d3_72) rfl rfl ?_
      refine Win.go (fun _ k => XT.dup2 X0.here hx rfl (hb hby d3_74) rfl rfl rfl k) ?_
      show Win p.tables e below _ (s₁.setTop (mkF m 75 #[.val (.ref a), .val (.ref b), .val (.long t0), .second, .val (.int (1 : Int32)), .val (.int (0 : Int32)), .val (.long mk0_0), .second] [(.int (0 : Int32)), (.ref a), (.int (0 : Int32)), (.ref a)]))
      obtain ⟨cl_71, Ar_71, q_71, S_71, N_71, H_71, G_71⟩ := id V_a
      have hi_71 : ¬ ((0 : Int32) < 0 ∨ cl_71.slots.size ≤ ((0 : Int32)).toNatClampNeg) := inb_of S_71 ⟨by decide, by decide⟩
      refine Win.go (fun _ k => X0.laload hx (j := (0 : Int32)) (v := (.long u0)) (by rw [e0]; exact Ar_71.1) (State.isArrayOf_alike hZ.alike Ar_71.2.1) Ar_71.2.2 hi_71 (H_71.at hi_71 rfl) (g := (mkF m 75 #[.val (.ref a), .val (.ref b), .val (.long t0), .second, .val (.int (1 : Int32)), .val (.int (0 : Int32)), .val (.long mk0_0), .second] [(.int (0 : Int32)), (.ref a), (.int (0 : Int32)), (.ref a)])) rfl rfl (hb hby d3_75) _ k) ?_
      show Win p.tables e below _ (s₁.setTop (mkF m 76 #[.val (.ref a), .val (.ref b), .val (.long t0), .second, .val (.int (1 : Int32)), .val (.int (0 : Int32)), .val (.long mk0_0), .second] [(.long u0), (.int (0 : Int32)), (.ref a)]))
      clear Ar_71 q_71 S_71 N_71 H_71 G_71 hi_71
      refine s_lload (pc' := 78) X0.here hx (hb hby d3_76) rfl rfl ?_
      refine s_land (pc' := 79) X0.here hx (hb hby d3_78) rfl ?_
      obtain ⟨cl_72, Ar_72, q_72, S_72, N_72, H_72, G_72⟩ := V_a
      obtain ⟨T_72, h_72, X_72, e_72, W_72, st_72⟩ := stJ X0 hx hZ e0 Ar_72 (j := (0 : Int32)) (inb_of S_72 ⟨by decide, by decide⟩) (g := (mkF m 79 #[.val (.ref a), .val (.ref b), .val (.long t0), .second, .val (.int (1 : Int32)), .val (.int (0 : Int32)), .val (.long mk0_0), .second] [(.long (u0 &&& mk0_0)), (.int (0 : Int32)), (.ref a)])) rfl rfl (hb hby d3_79)
      have V_72 := Arv.set Ar_72 q_72 S_72 N_72 H_72 G_72 rfl W_72 0 rfl (Nat.le_of_ble_eq_true rfl)
      replace V_b := V_b.other W_72 ne_b_a
      replace lt_a := Nat.lt_of_lt_of_le lt_a (Keep.of_wr W_72).1
      replace lt_b := Nat.lt_of_lt_of_le lt_b (Keep.of_wr W_72).1
      replace Zs := Nat.le_trans Zs (Keep.of_wr W_72).1
      replace Kp := Kp.wr W_72 (Or.inl (by simp))
      replace V_a : Arv Z h_72 a ka .long (2 : Int32) [(.long (u0 &&& mk0_0)), (.long u1)] (.long (0 : Int64)) := V_72
      replace Nf := Fr.snoc X_72 Nf g_a
      refine Win.go st_72 ?_
      clear st_72 W_72 V_72 Ar_72 q_72 S_72 N_72 H_72 G_72 X0 e0
      show Win p.tables e below _ (T_72.setTop (mkF m 80 #[.val (.ref a), .val (.ref b), .val (.long t0), .second, .val (.int (1 : Int32)), .val (.int (0 : Int32)), .val (.long mk0_0), .second] []))
      refine Win.go (fun _ k => XS.iinc X_72.here hx rfl (hb hby d3_80) rfl (l' := #[.val (.ref a), .val (.ref b), .val (.long t0), .second, .val (.int (1 : Int32)), .val (.int (1 : Int32)), .val (.long mk0_0), .second]) rfl k) ?_
      show Win p.tables e below _ (T_72.setTop (mkF m 83 #[.val (.ref a), .val (.ref b), .val (.long t0), .second, .val (.int (1 : Int32)), .val (.int (1 : Int32)), .val (.long mk0_0), .second] []))
      refine s_goto (pc' := 8) X_72.here hx (hb hby d3_83) (by decide) (by decide) ?_
      refine s_iload (pc' := 10) X_72.here hx (hb hby d3_8) rfl rfl ?_
      refine s_aloadN (pc' := 11) X_72.here hx (hb hby d3_10) rfl rfl rfl ?_
      obtain ⟨cl_73, Ar_73, q_73, S_73, N_73, H_73, G_73⟩ := id V_a
      refine Win.go (fun _ k => X_72.arraylength hx (by rw [e_72]; exact Ar_73.1) (State.isArrayOf_alike hZ.alike Ar_73.2.1) (g := (mkF m 11 #[.val (.ref a), .val (.ref b), .val (.long t0), .second, .val (.int (1 : Int32)), .val (.int (1 : Int32)), .val (.long mk0_0), .second] [(.ref a), (.int (1 : Int32))])) rfl rfl (hb hby d3_11) _ k) ?_
      rw [len_of S_73 N_73]
      clear Ar_73 q_73 S_73 N_73 H_73 G_73
      show Win p.tables e below _ (T_72.setTop (mkF m 12 #[.val (.ref a), .val (.ref b), .val (.long t0), .second, .val (.int (1 : Int32)), .val (.int (1 : Int32)), .val (.long mk0_0), .second] [(.int (2 : Int32)), (.int (1 : Int32))]))
      refine s_icmpNo (pc' := 15) X_72.here hx (hb hby d3_12) rfl (tltI (x := (1 : Int32)) (y := (2 : Int32)) (by decide)).2.1 ?_
      refine s_lconst (pc' := 16) (z := (0 : Int64)) X_72.here hx (hb hby d3_15) rfl rfl ?_
      refine s_lstore (pc' := 18) (l' := #[.val (.ref a), .val (.ref b), .val (.long t0), .second, .val (.int (1 : Int32)), .val (.int (1 : Int32)), .val (.long (0 : Int64)), .second]) X_72.here hx (hb hby d3_16) rfl rfl ?_
      refine s_iload (pc' := 20) X_72.here hx (hb hby d3_18) rfl rfl ?_
      refine s_aloadN (pc' := 21) X_72.here hx (hb hby d3_20) rfl rfl rfl ?_
      obtain ⟨cl_74, Ar_74, q_74, S_74, N_74, H_74, G_74⟩ := id V_b
      refine Win.go (fun _ k => X_72.arraylength hx (by rw [e_72]; exact Ar_74.1) (State.isArrayOf_alike hZ.alike Ar_74.2.1) (g := (mkF m 21 #[.val (.ref a), .val (.ref b), .val (.long t0), .second, .val (.int (1 : Int32)), .val (.int (1 : Int32)), .val (.long (0 : Int64)), .second] [(.ref b), (.int (1 : Int32))])) rfl rfl (hb hby d3_21) _ k) ?_
      rw [len_of S_74 N_74]
      clear Ar_74 q_74 S_74 N_74 H_74 G_74
      show Win p.tables e below _ (T_72.setTop (mkF m 22 #[.val (.ref a), .val (.ref b), .val (.long t0), .second, .val (.int (1 : Int32)), .val (.int (1 : Int32)), .val (.long (0 : Int64)), .second] [(.int (2 : Int32)), (.int (1 : Int32))]))
      refine s_icmpNo (pc' := 25) X_72.here hx (hb hby d3_22) rfl (tltI (x := (1 : Int32)) (y := (2 : Int32)) (by decide)).2.1 ?_
      refine s_aloadN (pc' := 26) X_72.here hx (hb hby d3_25) rfl rfl rfl ?_
      refine s_iload (pc' := 28) X_72.here hx (hb hby d3_26) rfl rfl ?_
      obtain ⟨cl_75, Ar_75, q_75, S_75, N_75, H_75, G_75⟩ := id V_b
      have hi_75 : ¬ ((1 : Int32) < 0 ∨ cl_75.slots.size ≤ ((1 : Int32)).toNatClampNeg) := inb_of S_75 ⟨by decide, by decide⟩
      refine Win.go (fun _ k => X_72.iaload hx (j := (1 : Int32)) (v := (.int v1)) (by rw [e_72]; exact Ar_75.1) (State.isArrayOf_alike hZ.alike Ar_75.2.1) Ar_75.2.2 hi_75 (H_75.at hi_75 rfl) (g := (mkF m 28 #[.val (.ref a), .val (.ref b), .val (.long t0), .second, .val (.int (1 : Int32)), .val (.int (1 : Int32)), .val (.long (0 : Int64)), .second] [(.int (1 : Int32)), (.ref b)])) rfl rfl (hb hby d3_28) _ k) ?_
      show Win p.tables e below _ (T_72.setTop (mkF m 29 #[.val (.ref a), .val (.ref b), .val (.long t0), .second, .val (.int (1 : Int32)), .val (.int (1 : Int32)), .val (.long (0 : Int64)), .second] [(.int v1)]))
      clear Ar_75 q_75 S_75 N_75 H_75 G_75 hi_75
      refine s_bipush (pc' := 31) (z := (64 : Int32)) X_72.here hx (hb hby d3_29) rfl rfl ?_
      refine Win.go (fun _ k => XS.idiv X_72.here hx rfl (hb hby d3_31) rfl (by decide) k) ?_
      show Win p.tables e below _ (T_72.setTop (mkF m 32 #[.val (.ref a), .val (.ref b), .val (.long t0), .second, .val (.int (1 : Int32)), .val (.int (1 : Int32)), .val (.long (0 : Int64)), .second] [(.int (v1 / (64 : Int32)))]))
      refine s_iload (pc' := 34) X_72.here hx (hb hby d3_32) rfl rfl ?_
      by_cases hc34_2 : ((v1 / (64 : Int32))).toInt = (1 : Int)
      · skip
        refine s_icmpNo (pc' := 37) X_72.here hx (hb hby d3_34) rfl (teqI (x := (v1 / (64 : Int32))) (y := (1 : Int32)) hc34_2).2 ?_
        refine s_lload (pc' := 39) X_72.here hx (hb hby d3_37) rfl rfl ?_
        refine s_lconst (pc' := 40) (z := (1 : Int64)) X_72.here hx (hb hby d3_39) rfl rfl ?_
        refine s_aloadN (pc' := 41) X_72.here hx (hb hby d3_40) rfl rfl rfl ?_
        refine s_iload (pc' := 43) X_72.here hx (hb hby d3_41) rfl rfl ?_
        obtain ⟨cl_76, Ar_76, q_76, S_76, N_76, H_76, G_76⟩ := id V_b
        have hi_76 : ¬ ((1 : Int32) < 0 ∨ cl_76.slots.size ≤ ((1 : Int32)).toNatClampNeg) := inb_of S_76 ⟨by decide, by decide⟩
        refine Win.go (fun _ k => X_72.iaload hx (j := (1 : Int32)) (v := (.int v1)) (by rw [e_72]; exact Ar_76.1) (State.isArrayOf_alike hZ.alike Ar_76.2.1) Ar_76.2.2 hi_76 (H_76.at hi_76 rfl) (g := (mkF m 43 #[.val (.ref a), .val (.ref b), .val (.long t0), .second, .val (.int (1 : Int32)), .val (.int (1 : Int32)), .val (.long (0 : Int64)), .second] [(.int (1 : Int32)), (.ref b), (.long (1 : Int64)), (.long (0 : Int64))])) rfl rfl (hb hby d3_43) _ k) ?_
        show Win p.tables e below _ (T_72.setTop (mkF m 44 #[.val (.ref a), .val (.ref b), .val (.long t0), .second, .val (.int (1 : Int32)), .val (.int (1 : Int32)), .val (.long (0 : Int64)), .second] [(.int v1), (.long (1 : Int64)), (.long (0 : Int64))]))
        clear Ar_76 q_76 S_76 N_76 H_76 G_76 hi_76
        refine s_bipush (pc' := 46) (z := (64 : Int32)) X_72.here hx (hb hby d3_44) rfl rfl ?_
        refine Win.go (fun _ k => iremM X_72 hx rfl (hb hby d3_46) rfl (by decide) k) ?_
        show Win p.tables e below _ (T_72.setTop (mkF m 47 #[.val (.ref a), .val (.ref b), .val (.long t0), .second, .val (.int (1 : Int32)), .val (.int (1 : Int32)), .val (.long (0 : Int64)), .second] [(.int (v1 % (64 : Int32))), (.long (1 : Int64)), (.long (0 : Int64))]))
        refine Win.go (fun _ k => XT.lshl X_72.here hx rfl (hb hby d3_47) rfl k) ?_
        show Win p.tables e below _ (T_72.setTop (mkF m 48 #[.val (.ref a), .val (.ref b), .val (.long t0), .second, .val (.int (1 : Int32)), .val (.int (1 : Int32)), .val (.long (0 : Int64)), .second] [(.long ((1 : Int64) <<< ((v1 % (64 : Int32)).toInt64 &&& 63))), (.long (0 : Int64))]))
        refine s_lor (pc' := 49) X_72.here hx (hb hby d3_48) rfl ?_
        refine s_lstore (pc' := 51) (l' := #[.val (.ref a), .val (.ref b), .val (.long t0), .second, .val (.int (1 : Int32)), .val (.int (1 : Int32)), .val (.long ((0 : Int64) ||| ((1 : Int64) <<< ((v1 % (64 : Int32)).toInt64 &&& 63)))), .second]) X_72.here hx (hb hby d3_49) rfl rfl ?_
        generalize hmk1_1 : ((0 : Int64) ||| ((1 : Int64) <<< ((v1 % (64 : Int32)).toInt64 &&& 63))) = mk1_1
        show Win p.tables e below _ (T_72.setTop (mkF m 51 #[.val (.ref a), .val (.ref b), .val (.long t0), .second, .val (.int (1 : Int32)), .val (.int (1 : Int32)), .val (.long mk1_1), .second] []))
        refine Win.go (fun _ k => XS.iinc X_72.here hx rfl (hb hby d3_51) rfl (l' := #[.val (.ref a), .val (.ref b), .val (.long t0), .second, .val (.int (2 : Int32)), .val (.int (1 : Int32)), .val (.long mk1_1), .second]) rfl k) ?_
        show Win p.tables e below _ (T_72.setTop (mkF m 54 #[.val (.ref a), .val (.ref b), .val (.long t0), .second, .val (.int (2 : Int32)), .val (.int (1 : Int32)), .val (.long mk1_1), .second] []))
        refine s_goto (pc' := 18) X_72.here hx (hb hby d3_54) (by decide) (by decide) ?_
        refine s_iload (pc' := 20) X_72.here hx (hb hby d3_18) rfl rfl ?_
        refine s_aloadN (pc' := 21) X_72.here hx (hb hby d3_20) rfl rfl rfl ?_
        obtain ⟨cl_77, Ar_77, q_77, S_77, N_77, H_77, G_77⟩ := id V_b
        refine Win.go (fun _ k => X_72.arraylength hx (by rw [e_72]; exact Ar_77.1) (State.isArrayOf_alike hZ.alike Ar_77.2.1) (g := (mkF m 21 #[.val (.ref a), .val (.ref b), .val (.long t0), .second, .val (.int (2 : Int32)), .val (.int (1 : Int32)), .val (.long mk1_1), .second] [(.ref b), (.int (2 : Int32))])) rfl rfl (hb hby d3_21) _ k) ?_
        rw [len_of S_77 N_77]
        clear Ar_77 q_77 S_77 N_77 H_77 G_77
        show Win p.tables e below _ (T_72.setTop (mkF m 22 #[.val (.ref a), .val (.ref b), .val (.long t0), .second, .val (.int (2 : Int32)), .val (.int (1 : Int32)), .val (.long mk1_1), .second] [(.int (2 : Int32)), (.int (2 : Int32))]))
        refine s_icmpYes (pc' := 57) X_72.here hx (hb hby d3_22) (fltI (x := (2 : Int32)) (y := (2 : Int32)) (by decide)).2.1 (by decide) (by decide) ?_
        refine s_lloadN (pc' := 58) X_72.here hx (hb hby d3_57) rfl rfl ?_
        refine s_aloadN (pc' := 59) X_72.here hx (hb hby d3_58) rfl rfl rfl ?_
        refine s_iload (pc' := 61) X_72.here hx (hb hby d3_59) rfl rfl ?_
        obtain ⟨cl_78, Ar_78, q_78, S_78, N_78, H_78, G_78⟩ := id V_a
        have hi_78 : ¬ ((1 : Int32) < 0 ∨ cl_78.slots.size ≤ ((1 : Int32)).toNatClampNeg) := inb_of S_78 ⟨by decide, by decide⟩
        refine Win.go (fun _ k => X_72.laload hx (j := (1 : Int32)) (v := (.long u1)) (by rw [e_72]; exact Ar_78.1) (State.isArrayOf_alike hZ.alike Ar_78.2.1) Ar_78.2.2 hi_78 (H_78.at hi_78 rfl) (g := (mkF m 61 #[.val (.ref a), .val (.ref b), .val (.long t0), .second, .val (.int (2 : Int32)), .val (.int (1 : Int32)), .val (.long mk1_1), .second] [(.int (1 : Int32)), (.ref a), (.long t0)])) rfl rfl (hb hby d3_61) _ k) ?_
        show Win p.tables e below _ (T_72.setTop (mkF m 62 #[.val (.ref a), .val (.ref b), .val (.long t0), .second, .val (.int (2 : Int32)), .val (.int (1 : Int32)), .val (.long mk1_1), .second] [(.long u1), (.long t0)]))
        clear Ar_78 q_78 S_78 N_78 H_78 G_78 hi_78
        refine s_lload (pc' := 64) X_72.here hx (hb hby d3_62) rfl rfl ?_
        refine Win.go (fun _ k => X_72.ldc2Long hx hown (mvT hZ (hw _ (List.mem_of_getElem? (i := 14) rfl))) (g := (mkF m 64 #[.val (.ref a), .val (.ref b), .val (.long t0), .second, .val (.int (2 : Int32)), .val (.int (1 : Int32)), .val (.long mk1_1), .second] [(.long mk1_1), (.long u1), (.long t0)])) rfl (hb hby d3_64) _ k) ?_
        show Win p.tables e below _ (T_72.setTop (mkF m 67 #[.val (.ref a), .val (.ref b), .val (.long t0), .second, .val (.int (2 : Int32)), .val (.int (1 : Int32)), .val (.long mk1_1), .second] [(.long (-1 : Int64)), (.long mk1_1), (.long u1), (.long t0)]))
        refine s_lxor (pc' := 68) X_72.here hx (hb hby d3_67) rfl ?_
        refine s_land (pc' := 69) X_72.here hx (hb hby d3_68) rfl ?_
        refine s_lor (pc' := 70) X_72.here hx (hb hby d3_69) rfl ?_
        refine s_lstoreN (pc' := 71) (l' := #[.val (.ref a), .val (.ref b), .val (.long (t0 ||| (u1 &&& (mk1_1 ^^^ (-1 : Int64))))), .second, .val (.int (2 : Int32)), .val (.int (1 : Int32)), .val (.long mk1_1), .second]) X_72.here hx (hb hby d3_70) rfl rfl ?_
        generalize ht1 : (t0 ||| (u1 &&& (mk1_1 ^^^ (-1 : Int64)))) = t1
        show Win p.tables e below _ (T_72.setTop (mkF m 71 #[.val (.ref a), .val (.ref b), .val (.long t1), .second, .val (.int (2 : Int32)), .val (.int (1 : Int32)), .val (.long mk1_1), .second] []))
        refine s_aloadN (pc' := 72) X_72.here hx (hb hby d3_71) rfl rfl rfl ?_
        refine s_iload (pc' := 74) X_72.here hx (hb hby d3_72) rfl rfl ?_
        refine Win.go (fun _ k => XT.dup2 X_72.here hx rfl (hb hby d3_74) rfl rfl rfl k) ?_
        show Win p.tables e below _ (T_72.setTop (mkF m 75 #[.val (.ref a), .val (.ref b), .val (.long t1), .second, .val (.int (2 : Int32)), .val (.int (1 : Int32)), .val (.long mk1_1), .second] [(.int (1 : Int32)), (.ref a), (.int (1 : Int32)), (.ref a)]))
        obtain ⟨cl_79, Ar_79, q_79, S_79, N_79, H_79, G_79⟩ := id V_a
        have hi_79 : ¬ ((1 : Int32) < 0 ∨ cl_79.slots.size ≤ ((1 : Int32)).toNatClampNeg) := inb_of S_79 ⟨by decide, by decide⟩
        refine Win.go (fun _ k => X_72.laload hx (j := (1 : Int32)) (v := (.long u1)) (by rw [e_72]; exact Ar_79.1) (State.isArrayOf_alike hZ.alike Ar_79.2.1) Ar_79.2.2 hi_79 (H_79.at hi_79 rfl) (g := (mkF m 75 #[.val (.ref a), .val (.ref b), .val (.long t1), .second, .val (.int (2 : Int32)), .val (.int (1 : Int32)), .val (.long mk1_1), .second] [(.int (1 : Int32)), (.ref a), (.int (1 : Int32)), (.ref a)])) rfl rfl (hb hby d3_75) _ k) ?_
        show Win p.tables e below _ (T_72.setTop (mkF m 76 #[.val (.ref a), .val (.ref b), .val (.long t1), .second, .val (.int (2 : Int32)), .val (.int (1 : Int32)), .val (.long mk1_1), .second] [(.long u1), (.int (1 : Int32)), (.ref a)]))
        clear Ar_79 q_79 S_79 N_79 H_79 G_79 hi_79
        refine s_lload (pc' := 78) X_72.here hx (hb hby d3_76) rfl rfl ?_
        refine s_land (pc' := 79) X_72.here hx (hb hby d3_78) rfl ?_
        obtain ⟨cl_80, Ar_80, q_80, S_80, N_80, H_80, G_80⟩ := V_a
        obtain ⟨T_80, h_80, X_80, e_80, W_80, st_80⟩ := stJ X_72 hx hZ e_72 Ar_80 (j := (1 : Int32)) (inb_of S_80 ⟨by decide, by decide⟩) (g := (mkF m 79 #[.val (.ref a), .val (.ref b), .val (.long t1), .second, .val (.int (2 : Int32)), .val (.int (1 : Int32)), .val (.long mk1_1), .second] [(.long (u1 &&& mk1_1)), (.int (1 : Int32)), (.ref a)])) rfl rfl (hb hby d3_79)
        have V_80 := Arv.set Ar_80 q_80 S_80 N_80 H_80 G_80 rfl W_80 1 rfl (Nat.le_of_ble_eq_true rfl)
        replace V_b := V_b.other W_80 ne_b_a
        replace lt_a := Nat.lt_of_lt_of_le lt_a (Keep.of_wr W_80).1
        replace lt_b := Nat.lt_of_lt_of_le lt_b (Keep.of_wr W_80).1
        replace Zs := Nat.le_trans Zs (Keep.of_wr W_80).1
        replace Kp := Kp.wr W_80 (Or.inl (by simp))
        replace V_a : Arv Z h_80 a ka .long (2 : Int32) [(.long (u0 &&& mk0_0)), (.long (u1 &&& mk1_1))] (.long (0 : Int64)) := V_80
        replace Nf := Fr.snoc X_80 Nf g_a
        refine Win.go st_80 ?_
        clear st_80 W_80 V_80 Ar_80 q_80 S_80 N_80 H_80 G_80 X_72 e_72
        show Win p.tables e below _ (T_80.setTop (mkF m 80 #[.val (.ref a), .val (.ref b), .val (.long t1), .second, .val (.int (2 : Int32)), .val (.int (1 : Int32)), .val (.long mk1_1), .second] []))
        refine Win.go (fun _ k => XS.iinc X_80.here hx rfl (hb hby d3_80) rfl (l' := #[.val (.ref a), .val (.ref b), .val (.long t1), .second, .val (.int (2 : Int32)), .val (.int (2 : Int32)), .val (.long mk1_1), .second]) rfl k) ?_
        show Win p.tables e below _ (T_80.setTop (mkF m 83 #[.val (.ref a), .val (.ref b), .val (.long t1), .second, .val (.int (2 : Int32)), .val (.int (2 : Int32)), .val (.long mk1_1), .second] []))
        refine s_goto (pc' := 8) X_80.here hx (hb hby d3_83) (by decide) (by decide) ?_
        refine s_iload (pc' := 10) X_80.here hx (hb hby d3_8) rfl rfl ?_
        refine s_aloadN (pc' := 11) X_80.here hx (hb hby d3_10) rfl rfl rfl ?_
        obtain ⟨cl_81, Ar_81, q_81, S_81, N_81, H_81, G_81⟩ := id V_a
        refine Win.go (fun _ k => X_80.arraylength hx (by rw [e_80]; exact Ar_81.1) (State.isArrayOf_alike hZ.alike Ar_81.2.1) (g := (mkF m 11 #[.val (.ref a), .val (.ref b), .val (.long t1), .second, .val (.int (2 : Int32)), .val (.int (2 : Int32)), .val (.long mk1_1), .second] [(.ref a), (.int (2 : Int32))])) rfl rfl (hb hby d3_11) _ k) ?_
        rw [len_of S_81 N_81]
        clear Ar_81 q_81 S_81 N_81 H_81 G_81
        show Win p.tables e below _ (T_80.setTop (mkF m 12 #[.val (.ref a), .val (.ref b), .val (.long t1), .second, .val (.int (2 : Int32)), .val (.int (2 : Int32)), .val (.long mk1_1), .second] [(.int (2 : Int32)), (.int (2 : Int32))]))
        refine s_icmpYes (pc' := 86) X_80.here hx (hb hby d3_12) (fltI (x := (2 : Int32)) (y := (2 : Int32)) (by decide)).2.1 (by decide) (by decide) ?_
        refine s_lloadN (pc' := 87) X_80.here hx (hb hby d3_86) rfl rfl ?_
        refine s_lconst (pc' := 88) (z := (0 : Int64)) X_80.here hx (hb hby d3_87) rfl rfl ?_
        refine s_lcmp (pc' := 89) X_80.here hx (hb hby d3_88) rfl ?_
        by_cases hc89_3 : (t1).toInt = (0 : Int)
        · skip
          refine s_ifYes (pc' := 96) X_80.here hx (hb hby d3_89) (teqL (x := t1) (y := (0 : Int64)) hc89_3).1 (by decide) (by decide) ?_
          refine s_iconst (pc' := 97) (z := (0 : Int32)) X_80.here hx (hb hby d3_96) rfl rfl ?_
          refine winN X_80 hx hlk e_80 (t := .boolean) Bd.returns (by simp) (hb hby d3_97) (by decide) (by decide) (z' := (0 : Int32)) rfl ?_
          have e0 := own_lo (v := v0) (by omega) (by omega)
          have e1 := own_hi (v := v1) (by omega) (by omega)
          have mA : ((((bit0 v0) ||| (bit0 v1)) ||| (0 : Int64)) ||| (0 : Int64)) = mk0_0 := by rw [← hmk0_0]; simp only [e0.1, e0.2, e1.1, e1.2, Int64.or_zero, Int64.zero_or]
          have mB : ((((bit1 v0) ||| (bit1 v1)) ||| (0 : Int64)) ||| (0 : Int64)) = mk1_1 := by rw [← hmk1_1]; simp only [e0.1, e0.2, e1.1, e1.2, Int64.or_zero, Int64.zero_or]
          have tt : (((0 : Int64) ||| (u0 &&& (((((bit0 v0) ||| (bit0 v1)) ||| (0 : Int64)) ||| (0 : Int64)) ^^^ (-1 : Int64)))) ||| (u1 &&& (((((bit1 v0) ||| (bit1 v1)) ||| (0 : Int64)) ||| (0 : Int64)) ^^^ (-1 : Int64)))) = t1 := by rw [mA, mB, ht0, ht1]
          refine ⟨Nf, Kp, by rw [mA, mB]; exact V_a, _, rfl, Or.inr ⟨rfl, ?_⟩⟩
          rw [tt]
          exact fun q => q hc89_3
        · skip
          refine s_ifNo (pc' := 92) X_80.here hx (hb hby d3_89) rfl (feqL (x := t1) (y := (0 : Int64)) hc89_3).1 ?_
          refine s_iconst (pc' := 93) (z := (1 : Int32)) X_80.here hx (hb hby d3_92) rfl rfl ?_
          refine s_goto (pc' := 97) X_80.here hx (hb hby d3_93) (by decide) (by decide) ?_
          refine winN X_80 hx hlk e_80 (t := .boolean) Bd.returns (by simp) (hb hby d3_97) (by decide) (by decide) (z' := (1 : Int32)) rfl ?_
          have e0 := own_lo (v := v0) (by omega) (by omega)
          have e1 := own_hi (v := v1) (by omega) (by omega)
          have mA : ((((bit0 v0) ||| (bit0 v1)) ||| (0 : Int64)) ||| (0 : Int64)) = mk0_0 := by rw [← hmk0_0]; simp only [e0.1, e0.2, e1.1, e1.2, Int64.or_zero, Int64.zero_or]
          have mB : ((((bit1 v0) ||| (bit1 v1)) ||| (0 : Int64)) ||| (0 : Int64)) = mk1_1 := by rw [← hmk1_1]; simp only [e0.1, e0.2, e1.1, e1.2, Int64.or_zero, Int64.zero_or]
          have tt : (((0 : Int64) ||| (u0 &&& (((((bit0 v0) ||| (bit0 v1)) ||| (0 : Int64)) ||| (0 : Int64)) ^^^ (-1 : Int64)))) ||| (u1 &&& (((((bit1 v0) ||| (bit1 v1)) ||| (0 : Int64)) ||| (0 : Int64)) ^^^ (-1 : Int64)))) = t1 := by rw [mA, mB, ht0, ht1]
          refine ⟨Nf, Kp, by rw [mA, mB]; exact V_a, _, rfl, Or.inl ⟨rfl, ?_⟩⟩
          rw [tt]
          exact hc89_3
      · skip
        exfalso
        omega
  · skip
    refine s_icmpYes (pc' := 57) X0.here hx (hb hby d3_34) (feqI (x := (v0 / (64 : Int32))) (y := (0 : Int32)) hc34_0).2 (by decide) (by decide) ?_
    refine s_lloadN (pc' := 58) X0.here hx (hb hby d3_57) rfl rfl ?_
    refine s_aloadN (pc' := 59) X0.here hx (hb hby d3_58) rfl rfl rfl ?_
    refine s_iload (pc' := 61) X0.here hx (hb hby d3_59) rfl rfl ?_
    obtain ⟨cl_82, Ar_82, q_82, S_82, N_82, H_82, G_82⟩ := id V_a
    have hi_82 : ¬ ((0 : Int32) < 0 ∨ cl_82.slots.size ≤ ((0 : Int32)).toNatClampNeg) := inb_of S_82 ⟨by decide, by decide⟩
    refine Win.go (fun _ k => X0.laload hx (j := (0 : Int32)) (v := (.long u0)) (by rw [e0]; exact Ar_82.1) (State.isArrayOf_alike hZ.alike Ar_82.2.1) Ar_82.2.2 hi_82 (H_82.at hi_82 rfl) (g := (mkF m 61 #[.val (.ref a), .val (.ref b), .val (.long (0 : Int64)), .second, .val (.int (0 : Int32)), .val (.int (0 : Int32)), .val (.long (0 : Int64)), .second] [(.int (0 : Int32)), (.ref a), (.long (0 : Int64))])) rfl rfl (hb hby d3_61) _ k) ?_
    show Win p.tables e below _ (s₁.setTop (mkF m 62 #[.val (.ref a), .val (.ref b), .val (.long (0 : Int64)), .second, .val (.int (0 : Int32)), .val (.int (0 : Int32)), .val (.long (0 : Int64)), .second] [(.long u0), (.long (0 : Int64))]))
    clear Ar_82 q_82 S_82 N_82 H_82 G_82 hi_82
    refine s_lload (pc' := 64) X0.here hx (hb hby d3_62) rfl rfl ?_
    refine Win.go (fun _ k => X0.ldc2Long hx hown (mvT hZ (hw _ (List.mem_of_getElem? (i := 14) rfl))) (g := (mkF m 64 #[.val (.ref a), .val (.ref b), .val (.long (0 : Int64)), .second, .val (.int (0 : Int32)), .val (.int (0 : Int32)), .val (.long (0 : Int64)), .second] [(.long (0 : Int64)), (.long u0), (.long (0 : Int64))])) rfl (hb hby d3_64) _ k) ?_
    show Win p.tables e below _ (s₁.setTop (mkF m 67 #[.val (.ref a), .val (.ref b), .val (.long (0 : Int64)), .second, .val (.int (0 : Int32)), .val (.int (0 : Int32)), .val (.long (0 : Int64)), .second] [(.long (-1 : Int64)), (.long (0 : Int64)), (.long u0), (.long (0 : Int64))]))
    refine Win.go (fun _ k => XS.lxor X0.here hx rfl (hb hby d3_67) rfl k) ?_
    show Win p.tables e below _ (s₁.setTop (mkF m 68 #[.val (.ref a), .val (.ref b), .val (.long (0 : Int64)), .second, .val (.int (0 : Int32)), .val (.int (0 : Int32)), .val (.long (0 : Int64)), .second] [(.long (-1 : Int64)), (.long u0), (.long (0 : Int64))]))
    refine s_land (pc' := 69) X0.here hx (hb hby d3_68) rfl ?_
    refine s_lor (pc' := 70) X0.here hx (hb hby d3_69) rfl ?_
    refine s_lstoreN (pc' := 71) (l' := #[.val (.ref a), .val (.ref b), .val (.long ((0 : Int64) ||| (u0 &&& (-1 : Int64)))), .second, .val (.int (0 : Int32)), .val (.int (0 : Int32)), .val (.long (0 : Int64)), .second]) X0.here hx (hb hby d3_70) rfl rfl ?_
    generalize ht0 : ((0 : Int64) ||| (u0 &&& (-1 : Int64))) = t0
    show Win p.tables e below _ (s₁.setTop (mkF m 71 #[.val (.ref a), .val (.ref b), .val (.long t0), .second, .val (.int (0 : Int32)), .val (.int (0 : Int32)), .val (.long (0 : Int64)), .second] []))
    refine s_aloadN (pc' := 72) X0.here hx (hb hby d3_71) rfl rfl rfl ?_
    refine s_iload (pc' := 74) X0.here hx (hb hby d3_72) rfl rfl ?_
    refine Win.go (fun _ k => XT.dup2 X0.here hx rfl (hb hby d3_74) rfl rfl rfl k) ?_
    show Win p.tables e below _ (s₁.setTop (mkF m 75 #[.val (.ref a), .val (.ref b), .val (.long t0), .second, .val (.int (0 : Int32)), .val (.int (0 : Int32)), .val (.long (0 : Int64)), .second] [(.int (0 : Int32)), (.ref a), (.int (0 : Int32)), (.ref a)]))
    obtain ⟨cl_83, Ar_83, q_83, S_83, N_83, H_83, G_83⟩ := id V_a
    have hi_83 : ¬ ((0 : Int32) < 0 ∨ cl_83.slots.size ≤ ((0 : Int32)).toNatClampNeg) := inb_of S_83 ⟨by decide, by decide⟩
    refine Win.go (fun _ k => X0.laload hx (j := (0 : Int32)) (v := (.long u0)) (by rw [e0]; exact Ar_83.1) (State.isArrayOf_alike hZ.alike Ar_83.2.1) Ar_83.2.2 hi_83 (H_83.at hi_83 rfl) (g := (mkF m 75 #[.val (.ref a), .val (.ref b), .val (.long t0), .second, .val (.int (0 : Int32)), .val (.int (0 : Int32)), .val (.long (0 : Int64)), .second] [(.int (0 : Int32)), (.ref a), (.int (0 : Int32)), (.ref a)])) rfl rfl (hb hby d3_75) _ k) ?_
    show Win p.tables e below _ (s₁.setTop (mkF m 76 #[.val (.ref a), .val (.ref b), .val (.long t0), .second, .val (.int (0 : Int32)), .val (.int (0 : Int32)), .val (.long (0 : Int64)), .second] [(.long u0), (.int (0 : Int32)), (.ref a)]))
    clear Ar_83 q_83 S_83 N_83 H_83 G_83 hi_83
    refine s_lload (pc' := 78) X0.here hx (hb hby d3_76) rfl rfl ?_
    refine s_land (pc' := 79) X0.here hx (hb hby d3_78) rfl ?_
    obtain ⟨cl_84, Ar_84, q_84, S_84, N_84, H_84, G_84⟩ := V_a
    obtain ⟨T_84, h_84, X_84, e_84, W_84, st_84⟩ := stJ X0 hx hZ e0 Ar_84 (j := (0 : Int32)) (inb_of S_84 ⟨by decide, by decide⟩) (g := (mkF m 79 #[.val (.ref a), .val (.ref b), .val (.long t0), .second, .val (.int (0 : Int32)), .val (.int (0 : Int32)), .val (.long (0 : Int64)), .second] [(.long (u0 &&& (0 : Int64))), (.int (0 : Int32)), (.ref a)])) rfl rfl (hb hby d3_79)
    have V_84 := Arv.set Ar_84 q_84 S_84 N_84 H_84 G_84 rfl W_84 0 rfl (Nat.le_of_ble_eq_true rfl)
    replace V_b := V_b.other W_84 ne_b_a
    replace lt_a := Nat.lt_of_lt_of_le lt_a (Keep.of_wr W_84).1
    replace lt_b := Nat.lt_of_lt_of_le lt_b (Keep.of_wr W_84).1
    replace Zs := Nat.le_trans Zs (Keep.of_wr W_84).1
    replace Kp := Kp.wr W_84 (Or.inl (by simp))
    replace V_a : Arv Z h_84 a ka .long (2 : Int32) [(.long (u0 &&& (0 : Int64))), (.long u1)] (.long (0 : Int64)) := V_84
    replace Nf := Fr.snoc X_84 Nf g_a
    refine Win.go st_84 ?_
    clear st_84 W_84 V_84 Ar_84 q_84 S_84 N_84 H_84 G_84 X0 e0
    show Win p.tables e below _ (T_84.setTop (mkF m 80 #[.val (.ref a), .val (.ref b), .val (.long t0), .second, .val (.int (0 : Int32)), .val (.int (0 : Int32)), .val (.long (0 : Int64)), .second] []))
    refine Win.go (fun _ k => XS.iinc X_84.here hx rfl (hb hby d3_80) rfl (l' := #[.val (.ref a), .val (.ref b), .val (.long t0), .second, .val (.int (0 : Int32)), .val (.int (1 : Int32)), .val (.long (0 : Int64)), .second]) rfl k) ?_
    show Win p.tables e below _ (T_84.setTop (mkF m 83 #[.val (.ref a), .val (.ref b), .val (.long t0), .second, .val (.int (0 : Int32)), .val (.int (1 : Int32)), .val (.long (0 : Int64)), .second] []))
    refine s_goto (pc' := 8) X_84.here hx (hb hby d3_83) (by decide) (by decide) ?_
    refine s_iload (pc' := 10) X_84.here hx (hb hby d3_8) rfl rfl ?_
    refine s_aloadN (pc' := 11) X_84.here hx (hb hby d3_10) rfl rfl rfl ?_
    obtain ⟨cl_85, Ar_85, q_85, S_85, N_85, H_85, G_85⟩ := id V_a
    refine Win.go (fun _ k => X_84.arraylength hx (by rw [e_84]; exact Ar_85.1) (State.isArrayOf_alike hZ.alike Ar_85.2.1) (g := (mkF m 11 #[.val (.ref a), .val (.ref b), .val (.long t0), .second, .val (.int (0 : Int32)), .val (.int (1 : Int32)), .val (.long (0 : Int64)), .second] [(.ref a), (.int (1 : Int32))])) rfl rfl (hb hby d3_11) _ k) ?_
    rw [len_of S_85 N_85]
    clear Ar_85 q_85 S_85 N_85 H_85 G_85
    show Win p.tables e below _ (T_84.setTop (mkF m 12 #[.val (.ref a), .val (.ref b), .val (.long t0), .second, .val (.int (0 : Int32)), .val (.int (1 : Int32)), .val (.long (0 : Int64)), .second] [(.int (2 : Int32)), (.int (1 : Int32))]))
    refine s_icmpNo (pc' := 15) X_84.here hx (hb hby d3_12) rfl (tltI (x := (1 : Int32)) (y := (2 : Int32)) (by decide)).2.1 ?_
    refine s_lconst (pc' := 16) (z := (0 : Int64)) X_84.here hx (hb hby d3_15) rfl rfl ?_
    refine s_lstore (pc' := 18) (l' := #[.val (.ref a), .val (.ref b), .val (.long t0), .second, .val (.int (0 : Int32)), .val (.int (1 : Int32)), .val (.long (0 : Int64)), .second]) X_84.here hx (hb hby d3_16) rfl rfl ?_
    refine s_iload (pc' := 20) X_84.here hx (hb hby d3_18) rfl rfl ?_
    refine s_aloadN (pc' := 21) X_84.here hx (hb hby d3_20) rfl rfl rfl ?_
    obtain ⟨cl_86, Ar_86, q_86, S_86, N_86, H_86, G_86⟩ := id V_b
    refine Win.go (fun _ k => X_84.arraylength hx (by rw [e_84]; exact Ar_86.1) (State.isArrayOf_alike hZ.alike Ar_86.2.1) (g := (mkF m 21 #[.val (.ref a), .val (.ref b), .val (.long t0), .second, .val (.int (0 : Int32)), .val (.int (1 : Int32)), .val (.long (0 : Int64)), .second] [(.ref b), (.int (0 : Int32))])) rfl rfl (hb hby d3_21) _ k) ?_
    rw [len_of S_86 N_86]
    clear Ar_86 q_86 S_86 N_86 H_86 G_86
    show Win p.tables e below _ (T_84.setTop (mkF m 22 #[.val (.ref a), .val (.ref b), .val (.long t0), .second, .val (.int (0 : Int32)), .val (.int (1 : Int32)), .val (.long (0 : Int64)), .second] [(.int (2 : Int32)), (.int (0 : Int32))]))
    refine s_icmpNo (pc' := 25) X_84.here hx (hb hby d3_22) rfl (tltI (x := (0 : Int32)) (y := (2 : Int32)) (by decide)).2.1 ?_
    refine s_aloadN (pc' := 26) X_84.here hx (hb hby d3_25) rfl rfl rfl ?_
    refine s_iload (pc' := 28) X_84.here hx (hb hby d3_26) rfl rfl ?_
    obtain ⟨cl_87, Ar_87, q_87, S_87, N_87, H_87, G_87⟩ := id V_b
    have hi_87 : ¬ ((0 : Int32) < 0 ∨ cl_87.slots.size ≤ ((0 : Int32)).toNatClampNeg) := inb_of S_87 ⟨by decide, by decide⟩
    refine Win.go (fun _ k => X_84.iaload hx (j := (0 : Int32)) (v := (.int v0)) (by rw [e_84]; exact Ar_87.1) (State.isArrayOf_alike hZ.alike Ar_87.2.1) Ar_87.2.2 hi_87 (H_87.at hi_87 rfl) (g := (mkF m 28 #[.val (.ref a), .val (.ref b), .val (.long t0), .second, .val (.int (0 : Int32)), .val (.int (1 : Int32)), .val (.long (0 : Int64)), .second] [(.int (0 : Int32)), (.ref b)])) rfl rfl (hb hby d3_28) _ k) ?_
    show Win p.tables e below _ (T_84.setTop (mkF m 29 #[.val (.ref a), .val (.ref b), .val (.long t0), .second, .val (.int (0 : Int32)), .val (.int (1 : Int32)), .val (.long (0 : Int64)), .second] [(.int v0)]))
    clear Ar_87 q_87 S_87 N_87 H_87 G_87 hi_87
    refine s_bipush (pc' := 31) (z := (64 : Int32)) X_84.here hx (hb hby d3_29) rfl rfl ?_
    refine Win.go (fun _ k => XS.idiv X_84.here hx rfl (hb hby d3_31) rfl (by decide) k) ?_
    show Win p.tables e below _ (T_84.setTop (mkF m 32 #[.val (.ref a), .val (.ref b), .val (.long t0), .second, .val (.int (0 : Int32)), .val (.int (1 : Int32)), .val (.long (0 : Int64)), .second] [(.int (v0 / (64 : Int32)))]))
    refine s_iload (pc' := 34) X_84.here hx (hb hby d3_32) rfl rfl ?_
    by_cases hc34_1 : ((v0 / (64 : Int32))).toInt = (1 : Int)
    · skip
      refine s_icmpNo (pc' := 37) X_84.here hx (hb hby d3_34) rfl (teqI (x := (v0 / (64 : Int32))) (y := (1 : Int32)) hc34_1).2 ?_
      refine s_lload (pc' := 39) X_84.here hx (hb hby d3_37) rfl rfl ?_
      refine s_lconst (pc' := 40) (z := (1 : Int64)) X_84.here hx (hb hby d3_39) rfl rfl ?_
      refine s_aloadN (pc' := 41) X_84.here hx (hb hby d3_40) rfl rfl rfl ?_
      refine s_iload (pc' := 43) X_84.here hx (hb hby d3_41) rfl rfl ?_
      obtain ⟨cl_88, Ar_88, q_88, S_88, N_88, H_88, G_88⟩ := id V_b
      have hi_88 : ¬ ((0 : Int32) < 0 ∨ cl_88.slots.size ≤ ((0 : Int32)).toNatClampNeg) := inb_of S_88 ⟨by decide, by decide⟩
      refine Win.go (fun _ k => X_84.iaload hx (j := (0 : Int32)) (v := (.int v0)) (by rw [e_84]; exact Ar_88.1) (State.isArrayOf_alike hZ.alike Ar_88.2.1) Ar_88.2.2 hi_88 (H_88.at hi_88 rfl) (g := (mkF m 43 #[.val (.ref a), .val (.ref b), .val (.long t0), .second, .val (.int (0 : Int32)), .val (.int (1 : Int32)), .val (.long (0 : Int64)), .second] [(.int (0 : Int32)), (.ref b), (.long (1 : Int64)), (.long (0 : Int64))])) rfl rfl (hb hby d3_43) _ k) ?_
      show Win p.tables e below _ (T_84.setTop (mkF m 44 #[.val (.ref a), .val (.ref b), .val (.long t0), .second, .val (.int (0 : Int32)), .val (.int (1 : Int32)), .val (.long (0 : Int64)), .second] [(.int v0), (.long (1 : Int64)), (.long (0 : Int64))]))
      clear Ar_88 q_88 S_88 N_88 H_88 G_88 hi_88
      refine s_bipush (pc' := 46) (z := (64 : Int32)) X_84.here hx (hb hby d3_44) rfl rfl ?_
      refine Win.go (fun _ k => iremM X_84 hx rfl (hb hby d3_46) rfl (by decide) k) ?_
      show Win p.tables e below _ (T_84.setTop (mkF m 47 #[.val (.ref a), .val (.ref b), .val (.long t0), .second, .val (.int (0 : Int32)), .val (.int (1 : Int32)), .val (.long (0 : Int64)), .second] [(.int (v0 % (64 : Int32))), (.long (1 : Int64)), (.long (0 : Int64))]))
      refine Win.go (fun _ k => XT.lshl X_84.here hx rfl (hb hby d3_47) rfl k) ?_
      show Win p.tables e below _ (T_84.setTop (mkF m 48 #[.val (.ref a), .val (.ref b), .val (.long t0), .second, .val (.int (0 : Int32)), .val (.int (1 : Int32)), .val (.long (0 : Int64)), .second] [(.long ((1 : Int64) <<< ((v0 % (64 : Int32)).toInt64 &&& 63))), (.long (0 : Int64))]))
      refine s_lor (pc' := 49) X_84.here hx (hb hby d3_48) rfl ?_
      refine s_lstore (pc' := 51) (l' := #[.val (.ref a), .val (.ref b), .val (.long t0), .second, .val (.int (0 : Int32)), .val (.int (1 : Int32)), .val (.long ((0 : Int64) ||| ((1 : Int64) <<< ((v0 % (64 : Int32)).toInt64 &&& 63)))), .second]) X_84.here hx (hb hby d3_49) rfl rfl ?_
      generalize hmk1_0 : ((0 : Int64) ||| ((1 : Int64) <<< ((v0 % (64 : Int32)).toInt64 &&& 63))) = mk1_0
      show Win p.tables e below _ (T_84.setTop (mkF m 51 #[.val (.ref a), .val (.ref b), .val (.long t0), .second, .val (.int (0 : Int32)), .val (.int (1 : Int32)), .val (.long mk1_0), .second] []))
      refine Win.go (fun _ k => XS.iinc X_84.here hx rfl (hb hby d3_51) rfl (l' := #[.val (.ref a), .val (.ref b), .val (.long t0), .second, .val (.int (1 : Int32)), .val (.int (1 : Int32)), .val (.long mk1_0), .second]) rfl k) ?_
      show Win p.tables e below _ (T_84.setTop (mkF m 54 #[.val (.ref a), .val (.ref b), .val (.long t0), .second, .val (.int (1 : Int32)), .val (.int (1 : Int32)), .val (.long mk1_0), .second] []))
      refine s_goto (pc' := 18) X_84.here hx (hb hby d3_54) (by decide) (by decide) ?_
      refine s_iload (pc' := 20) X_84.here hx (hb hby d3_18) rfl rfl ?_
      refine s_aloadN (pc' := 21) X_84.here hx (hb hby d3_20) rfl rfl rfl ?_
      obtain ⟨cl_89, Ar_89, q_89, S_89, N_89, H_89, G_89⟩ := id V_b
      refine Win.go (fun _ k => X_84.arraylength hx (by rw [e_84]; exact Ar_89.1) (State.isArrayOf_alike hZ.alike Ar_89.2.1) (g := (mkF m 21 #[.val (.ref a), .val (.ref b), .val (.long t0), .second, .val (.int (1 : Int32)), .val (.int (1 : Int32)), .val (.long mk1_0), .second] [(.ref b), (.int (1 : Int32))])) rfl rfl (hb hby d3_21) _ k) ?_
      rw [len_of S_89 N_89]
      clear Ar_89 q_89 S_89 N_89 H_89 G_89
      show Win p.tables e below _ (T_84.setTop (mkF m 22 #[.val (.ref a), .val (.ref b), .val (.long t0), .second, .val (.int (1 : Int32)), .val (.int (1 : Int32)), .val (.long mk1_0), .second] [(.int (2 : Int32)), (.int (1 : Int32))]))
      refine s_icmpNo (pc' := 25) X_84.here hx (hb hby d3_22) rfl (tltI (x := (1 : Int32)) (y := (2 : Int32)) (by decide)).2.1 ?_
      refine s_aloadN (pc' := 26) X_84.here hx (hb hby d3_25) rfl rfl rfl ?_
      refine s_iload (pc' := 28) X_84.here hx (hb hby d3_26) rfl rfl ?_
      obtain ⟨cl_90, Ar_90, q_90, S_90, N_90, H_90, G_90⟩ := id V_b
      have hi_90 : ¬ ((1 : Int32) < 0 ∨ cl_90.slots.size ≤ ((1 : Int32)).toNatClampNeg) := inb_of S_90 ⟨by decide, by decide⟩
      refine Win.go (fun _ k => X_84.iaload hx (j := (1 : Int32)) (v := (.int v1)) (by rw [e_84]; exact Ar_90.1) (State.isArrayOf_alike hZ.alike Ar_90.2.1) Ar_90.2.2 hi_90 (H_90.at hi_90 rfl) (g := (mkF m 28 #[.val (.ref a), .val (.ref b), .val (.long t0), .second, .val (.int (1 : Int32)), .val (.int (1 : Int32)), .val (.long mk1_0), .second] [(.int (1 : Int32)), (.ref b)])) rfl rfl (hb hby d3_28) _ k) ?_
      show Win p.tables e below _ (T_84.setTop (mkF m 29 #[.val (.ref a), .val (.ref b), .val (.long t0), .second, .val (.int (1 : Int32)), .val (.int (1 : Int32)), .val (.long mk1_0), .second] [(.int v1)]))
      clear Ar_90 q_90 S_90 N_90 H_90 G_90 hi_90
      refine s_bipush (pc' := 31) (z := (64 : Int32)) X_84.here hx (hb hby d3_29) rfl rfl ?_
      refine Win.go (fun _ k => XS.idiv X_84.here hx rfl (hb hby d3_31) rfl (by decide) k) ?_
      show Win p.tables e below _ (T_84.setTop (mkF m 32 #[.val (.ref a), .val (.ref b), .val (.long t0), .second, .val (.int (1 : Int32)), .val (.int (1 : Int32)), .val (.long mk1_0), .second] [(.int (v1 / (64 : Int32)))]))
      refine s_iload (pc' := 34) X_84.here hx (hb hby d3_32) rfl rfl ?_
      by_cases hc34_2 : ((v1 / (64 : Int32))).toInt = (1 : Int)
      · skip
        refine s_icmpNo (pc' := 37) X_84.here hx (hb hby d3_34) rfl (teqI (x := (v1 / (64 : Int32))) (y := (1 : Int32)) hc34_2).2 ?_
        refine s_lload (pc' := 39) X_84.here hx (hb hby d3_37) rfl rfl ?_
        refine s_lconst (pc' := 40) (z := (1 : Int64)) X_84.here hx (hb hby d3_39) rfl rfl ?_
        refine s_aloadN (pc' := 41) X_84.here hx (hb hby d3_40) rfl rfl rfl ?_
        refine s_iload (pc' := 43) X_84.here hx (hb hby d3_41) rfl rfl ?_
        obtain ⟨cl_91, Ar_91, q_91, S_91, N_91, H_91, G_91⟩ := id V_b
        have hi_91 : ¬ ((1 : Int32) < 0 ∨ cl_91.slots.size ≤ ((1 : Int32)).toNatClampNeg) := inb_of S_91 ⟨by decide, by decide⟩
        refine Win.go (fun _ k => X_84.iaload hx (j := (1 : Int32)) (v := (.int v1)) (by rw [e_84]; exact Ar_91.1) (State.isArrayOf_alike hZ.alike Ar_91.2.1) Ar_91.2.2 hi_91 (H_91.at hi_91 rfl) (g := (mkF m 43 #[.val (.ref a), .val (.ref b), .val (.long t0), .second, .val (.int (1 : Int32)), .val (.int (1 : Int32)), .val (.long mk1_0), .second] [(.int (1 : Int32)), (.ref b), (.long (1 : Int64)), (.long mk1_0)])) rfl rfl (hb hby d3_43) _ k) ?_
        show Win p.tables e below _ (T_84.setTop (mkF m 44 #[.val (.ref a), .val (.ref b), .val (.long t0), .second, .val (.int (1 : Int32)), .val (.int (1 : Int32)), .val (.long mk1_0), .second] [(.int v1), (.long (1 : Int64)), (.long mk1_0)]))
        clear Ar_91 q_91 S_91 N_91 H_91 G_91 hi_91
        refine s_bipush (pc' := 46) (z := (64 : Int32)) X_84.here hx (hb hby d3_44) rfl rfl ?_
        refine Win.go (fun _ k => iremM X_84 hx rfl (hb hby d3_46) rfl (by decide) k) ?_
        show Win p.tables e below _ (T_84.setTop (mkF m 47 #[.val (.ref a), .val (.ref b), .val (.long t0), .second, .val (.int (1 : Int32)), .val (.int (1 : Int32)), .val (.long mk1_0), .second] [(.int (v1 % (64 : Int32))), (.long (1 : Int64)), (.long mk1_0)]))
        refine Win.go (fun _ k => XT.lshl X_84.here hx rfl (hb hby d3_47) rfl k) ?_
        show Win p.tables e below _ (T_84.setTop (mkF m 48 #[.val (.ref a), .val (.ref b), .val (.long t0), .second, .val (.int (1 : Int32)), .val (.int (1 : Int32)), .val (.long mk1_0), .second] [(.long ((1 : Int64) <<< ((v1 % (64 : Int32)).toInt64 &&& 63))), (.long mk1_0)]))
        refine s_lor (pc' := 49) X_84.here hx (hb hby d3_48) rfl ?_
        refine s_lstore (pc' := 51) (l' := #[.val (.ref a), .val (.ref b), .val (.long t0), .second, .val (.int (1 : Int32)), .val (.int (1 : Int32)), .val (.long (mk1_0 ||| ((1 : Int64) <<< ((v1 % (64 : Int32)).toInt64 &&& 63)))), .second]) X_84.here hx (hb hby d3_49) rfl rfl ?_
        generalize hmk1_1 : (mk1_0 ||| ((1 : Int64) <<< ((v1 % (64 : Int32)).toInt64 &&& 63))) = mk1_1
        show Win p.tables e below _ (T_84.setTop (mkF m 51 #[.val (.ref a), .val (.ref b), .val (.long t0), .second, .val (.int (1 : Int32)), .val (.int (1 : Int32)), .val (.long mk1_1), .second] []))
        refine Win.go (fun _ k => XS.iinc X_84.here hx rfl (hb hby d3_51) rfl (l' := #[.val (.ref a), .val (.ref b), .val (.long t0), .second, .val (.int (2 : Int32)), .val (.int (1 : Int32)), .val (.long mk1_1), .second]) rfl k) ?_
        show Win p.tables e below _ (T_84.setTop (mkF m 54 #[.val (.ref a), .val (.ref b), .val (.long t0), .second, .val (.int (2 : Int32)), .val (.int (1 : Int32)), .val (.long mk1_1), .second] []))
        refine s_goto (pc' := 18) X_84.here hx (hb hby d3_54) (by decide) (by decide) ?_
        refine s_iload (pc' := 20) X_84.here hx (hb hby d3_18) rfl rfl ?_
        refine s_aloadN (pc' := 21) X_84.here hx (hb hby d3_20) rfl rfl rfl ?_
        obtain ⟨cl_92, Ar_92, q_92, S_92, N_92, H_92, G_92⟩ := id V_b
        refine Win.go (fun _ k => X_84.arraylength hx (by rw [e_84]; exact Ar_92.1) (State.isArrayOf_alike hZ.alike Ar_92.2.1) (g := (mkF m 21 #[.val (.ref a), .val (.ref b), .val (.long t0), .second, .val (.int (2 : Int32)), .val (.int (1 : Int32)), .val (.long mk1_1), .second] [(.ref b), (.int (2 : Int32))])) rfl rfl (hb hby d3_21) _ k) ?_
        rw [len_of S_92 N_92]
        clear Ar_92 q_92 S_92 N_92 H_92 G_92
        show Win p.tables e below _ (T_84.setTop (mkF m 22 #[.val (.ref a), .val (.ref b), .val (.long t0), .second, .val (.int (2 : Int32)), .val (.int (1 : Int32)), .val (.long mk1_1), .second] [(.int (2 : Int32)), (.int (2 : Int32))]))
        refine s_icmpYes (pc' := 57) X_84.here hx (hb hby d3_22) (fltI (x := (2 : Int32)) (y := (2 : Int32)) (by decide)).2.1 (by decide) (by decide) ?_
        refine s_lloadN (pc' := 58) X_84.here hx (hb hby d3_57) rfl rfl ?_
        refine s_aloadN (pc' := 59) X_84.here hx (hb hby d3_58) rfl rfl rfl ?_
        refine s_iload (pc' := 61) X_84.here hx (hb hby d3_59) rfl rfl ?_
        obtain ⟨cl_93, Ar_93, q_93, S_93, N_93, H_93, G_93⟩ := id V_a
        have hi_93 : ¬ ((1 : Int32) < 0 ∨ cl_93.slots.size ≤ ((1 : Int32)).toNatClampNeg) := inb_of S_93 ⟨by decide, by decide⟩
        refine Win.go (fun _ k => X_84.laload hx (j := (1 : Int32)) (v := (.long u1)) (by rw [e_84]; exact Ar_93.1) (State.isArrayOf_alike hZ.alike Ar_93.2.1) Ar_93.2.2 hi_93 (H_93.at hi_93 rfl) (g := (mkF m 61 #[.val (.ref a), .val (.ref b), .val (.long t0), .second, .val (.int (2 : Int32)), .val (.int (1 : Int32)), .val (.long mk1_1), .second] [(.int (1 : Int32)), (.ref a), (.long t0)])) rfl rfl (hb hby d3_61) _ k) ?_
        show Win p.tables e below _ (T_84.setTop (mkF m 62 #[.val (.ref a), .val (.ref b), .val (.long t0), .second, .val (.int (2 : Int32)), .val (.int (1 : Int32)), .val (.long mk1_1), .second] [(.long u1), (.long t0)]))
        clear Ar_93 q_93 S_93 N_93 H_93 G_93 hi_93
        refine s_lload (pc' := 64) X_84.here hx (hb hby d3_62) rfl rfl ?_
        refine Win.go (fun _ k => X_84.ldc2Long hx hown (mvT hZ (hw _ (List.mem_of_getElem? (i := 14) rfl))) (g := (mkF m 64 #[.val (.ref a), .val (.ref b), .val (.long t0), .second, .val (.int (2 : Int32)), .val (.int (1 : Int32)), .val (.long mk1_1), .second] [(.long mk1_1), (.long u1), (.long t0)])) rfl (hb hby d3_64) _ k) ?_
        show Win p.tables e below _ (T_84.setTop (mkF m 67 #[.val (.ref a), .val (.ref b), .val (.long t0), .second, .val (.int (2 : Int32)), .val (.int (1 : Int32)), .val (.long mk1_1), .second] [(.long (-1 : Int64)), (.long mk1_1), (.long u1), (.long t0)]))
        refine s_lxor (pc' := 68) X_84.here hx (hb hby d3_67) rfl ?_
        refine s_land (pc' := 69) X_84.here hx (hb hby d3_68) rfl ?_
        refine s_lor (pc' := 70) X_84.here hx (hb hby d3_69) rfl ?_
        refine s_lstoreN (pc' := 71) (l' := #[.val (.ref a), .val (.ref b), .val (.long (t0 ||| (u1 &&& (mk1_1 ^^^ (-1 : Int64))))), .second, .val (.int (2 : Int32)), .val (.int (1 : Int32)), .val (.long mk1_1), .second]) X_84.here hx (hb hby d3_70) rfl rfl ?_
        generalize ht1 : (t0 ||| (u1 &&& (mk1_1 ^^^ (-1 : Int64)))) = t1
        show Win p.tables e below _ (T_84.setTop (mkF m 71 #[.val (.ref a), .val (.ref b), .val (.long t1), .second, .val (.int (2 : Int32)), .val (.int (1 : Int32)), .val (.long mk1_1), .second] []))
        refine s_aloadN (pc' := 72) X_84.here hx (hb hby d3_71) rfl rfl rfl ?_
        refine s_iload (pc' := 74) X_84.here hx (hb hby d3_72) rfl rfl ?_
        refine Win.go (fun _ k => XT.dup2 X_84.here hx rfl (hb hby d3_74) rfl rfl rfl k) ?_
        show Win p.tables e below _ (T_84.setTop (mkF m 75 #[.val (.ref a), .val (.ref b), .val (.long t1), .second, .val (.int (2 : Int32)), .val (.int (1 : Int32)), .val (.long mk1_1), .second] [(.int (1 : Int32)), (.ref a), (.int (1 : Int32)), (.ref a)]))
        obtain ⟨cl_94, Ar_94, q_94, S_94, N_94, H_94, G_94⟩ := id V_a
        have hi_94 : ¬ ((1 : Int32) < 0 ∨ cl_94.slots.size ≤ ((1 : Int32)).toNatClampNeg) := inb_of S_94 ⟨by decide, by decide⟩
        refine Win.go (fun _ k => X_84.laload hx (j := (1 : Int32)) (v := (.long u1)) (by rw [e_84]; exact Ar_94.1) (State.isArrayOf_alike hZ.alike Ar_94.2.1) Ar_94.2.2 hi_94 (H_94.at hi_94 rfl) (g := (mkF m 75 #[.val (.ref a), .val (.ref b), .val (.long t1), .second, .val (.int (2 : Int32)), .val (.int (1 : Int32)), .val (.long mk1_1), .second] [(.int (1 : Int32)), (.ref a), (.int (1 : Int32)), (.ref a)])) rfl rfl (hb hby d3_75) _ k) ?_
        show Win p.tables e below _ (T_84.setTop (mkF m 76 #[.val (.ref a), .val (.ref b), .val (.long t1), .second, .val (.int (2 : Int32)), .val (.int (1 : Int32)), .val (.long mk1_1), .second] [(.long u1), (.int (1 : Int32)), (.ref a)]))
        clear Ar_94 q_94 S_94 N_94 H_94 G_94 hi_94
        refine s_lload (pc' := 78) X_84.here hx (hb hby d3_76) rfl rfl ?_
        refine s_land (pc' := 79) X_84.here hx (hb hby d3_78) rfl ?_
        obtain ⟨cl_95, Ar_95, q_95, S_95, N_95, H_95, G_95⟩ := V_a
        obtain ⟨T_95, h_95, X_95, e_95, W_95, st_95⟩ := stJ X_84 hx hZ e_84 Ar_95 (j := (1 : Int32)) (inb_of S_95 ⟨by decide, by decide⟩) (g := (mkF m 79 #[.val (.ref a), .val (.ref b), .val (.long t1), .second, .val (.int (2 : Int32)), .val (.int (1 : Int32)), .val (.long mk1_1), .second] [(.long (u1 &&& mk1_1)), (.int (1 : Int32)), (.ref a)])) rfl rfl (hb hby d3_79)
        have V_95 := Arv.set Ar_95 q_95 S_95 N_95 H_95 G_95 rfl W_95 1 rfl (Nat.le_of_ble_eq_true rfl)
        replace V_b := V_b.other W_95 ne_b_a
        replace lt_a := Nat.lt_of_lt_of_le lt_a (Keep.of_wr W_95).1
        replace lt_b := Nat.lt_of_lt_of_le lt_b (Keep.of_wr W_95).1
        replace Zs := Nat.le_trans Zs (Keep.of_wr W_95).1
        replace Kp := Kp.wr W_95 (Or.inl (by simp))
        replace V_a : Arv Z h_95 a ka .long (2 : Int32) [(.long (u0 &&& (0 : Int64))), (.long (u1 &&& mk1_1))] (.long (0 : Int64)) := V_95
        replace Nf := Fr.snoc X_95 Nf g_a
        refine Win.go st_95 ?_
        clear st_95 W_95 V_95 Ar_95 q_95 S_95 N_95 H_95 G_95 X_84 e_84
        show Win p.tables e below _ (T_95.setTop (mkF m 80 #[.val (.ref a), .val (.ref b), .val (.long t1), .second, .val (.int (2 : Int32)), .val (.int (1 : Int32)), .val (.long mk1_1), .second] []))
        refine Win.go (fun _ k => XS.iinc X_95.here hx rfl (hb hby d3_80) rfl (l' := #[.val (.ref a), .val (.ref b), .val (.long t1), .second, .val (.int (2 : Int32)), .val (.int (2 : Int32)), .val (.long mk1_1), .second]) rfl k) ?_
        show Win p.tables e below _ (T_95.setTop (mkF m 83 #[.val (.ref a), .val (.ref b), .val (.long t1), .second, .val (.int (2 : Int32)), .val (.int (2 : Int32)), .val (.long mk1_1), .second] []))
        refine s_goto (pc' := 8) X_95.here hx (hb hby d3_83) (by decide) (by decide) ?_
        refine s_iload (pc' := 10) X_95.here hx (hb hby d3_8) rfl rfl ?_
        refine s_aloadN (pc' := 11) X_95.here hx (hb hby d3_10) rfl rfl rfl ?_
        obtain ⟨cl_96, Ar_96, q_96, S_96, N_96, H_96, G_96⟩ := id V_a
        refine Win.go (fun _ k => X_95.arraylength hx (by rw [e_95]; exact Ar_96.1) (State.isArrayOf_alike hZ.alike Ar_96.2.1) (g := (mkF m 11 #[.val (.ref a), .val (.ref b), .val (.long t1), .second, .val (.int (2 : Int32)), .val (.int (2 : Int32)), .val (.long mk1_1), .second] [(.ref a), (.int (2 : Int32))])) rfl rfl (hb hby d3_11) _ k) ?_
        rw [len_of S_96 N_96]
        clear Ar_96 q_96 S_96 N_96 H_96 G_96
        show Win p.tables e below _ (T_95.setTop (mkF m 12 #[.val (.ref a), .val (.ref b), .val (.long t1), .second, .val (.int (2 : Int32)), .val (.int (2 : Int32)), .val (.long mk1_1), .second] [(.int (2 : Int32)), (.int (2 : Int32))]))
        refine s_icmpYes (pc' := 86) X_95.here hx (hb hby d3_12) (fltI (x := (2 : Int32)) (y := (2 : Int32)) (by decide)).2.1 (by decide) (by decide) ?_
        refine s_lloadN (pc' := 87) X_95.here hx (hb hby d3_86) rfl rfl ?_
        refine s_lconst (pc' := 88) (z := (0 : Int64)) X_95.here hx (hb hby d3_87) rfl rfl ?_
        refine s_lcmp (pc' := 89) X_95.here hx (hb hby d3_88) rfl ?_
        by_cases hc89_3 : (t1).toInt = (0 : Int)
        · skip
          refine s_ifYes (pc' := 96) X_95.here hx (hb hby d3_89) (teqL (x := t1) (y := (0 : Int64)) hc89_3).1 (by decide) (by decide) ?_
          refine s_iconst (pc' := 97) (z := (0 : Int32)) X_95.here hx (hb hby d3_96) rfl rfl ?_
          refine winN X_95 hx hlk e_95 (t := .boolean) Bd.returns (by simp) (hb hby d3_97) (by decide) (by decide) (z' := (0 : Int32)) rfl ?_
          have e0 := own_hi (v := v0) (by omega) (by omega)
          have e1 := own_hi (v := v1) (by omega) (by omega)
          have mA : ((((bit0 v0) ||| (bit0 v1)) ||| (0 : Int64)) ||| (0 : Int64)) = (0 : Int64) := by simp only [e0.1, e0.2, e1.1, e1.2, Int64.or_zero, Int64.zero_or]
          have mB : ((((bit1 v0) ||| (bit1 v1)) ||| (0 : Int64)) ||| (0 : Int64)) = mk1_1 := by rw [← hmk1_1, ← hmk1_0]; simp only [e0.1, e0.2, e1.1, e1.2, Int64.or_zero, Int64.zero_or]
          have tt : (((0 : Int64) ||| (u0 &&& (((((bit0 v0) ||| (bit0 v1)) ||| (0 : Int64)) ||| (0 : Int64)) ^^^ (-1 : Int64)))) ||| (u1 &&& (((((bit1 v0) ||| (bit1 v1)) ||| (0 : Int64)) ||| (0 : Int64)) ^^^ (-1 : Int64)))) = t1 := by rw [mA, mB, show ((0 : Int64) ^^^ (-1 : Int64)) = -1 from by decide, ht0, ht1]
          refine ⟨Nf, Kp, by rw [mA, mB]; exact V_a, _, rfl, Or.inr ⟨rfl, ?_⟩⟩
          rw [tt]
          exact fun q => q hc89_3
        · skip
          refine s_ifNo (pc' := 92) X_95.here hx (hb hby d3_89) rfl (feqL (x := t1) (y := (0 : Int64)) hc89_3).1 ?_
          refine s_iconst (pc' := 93) (z := (1 : Int32)) X_95.here hx (hb hby d3_92) rfl rfl ?_
          refine s_goto (pc' := 97) X_95.here hx (hb hby d3_93) (by decide) (by decide) ?_
          refine winN X_95 hx hlk e_95 (t := .boolean) Bd.returns (by simp) (hb hby d3_97) (by decide) (by decide) (z' := (1 : Int32)) rfl ?_
          have e0 := own_hi (v := v0) (by omega) (by omega)
          have e1 := own_hi (v := v1) (by omega) (by omega)
          have mA : ((((bit0 v0) ||| (bit0 v1)) ||| (0 : Int64)) ||| (0 : Int64)) = (0 : Int64) := by simp only [e0.1, e0.2, e1.1, e1.2, Int64.or_zero, Int64.zero_or]
          have mB : ((((bit1 v0) ||| (bit1 v1)) ||| (0 : Int64)) ||| (0 : Int64)) = mk1_1 := by rw [← hmk1_1, ← hmk1_0]; simp only [e0.1, e0.2, e1.1, e1.2, Int64.or_zero, Int64.zero_or]
          have tt : (((0 : Int64) ||| (u0 &&& (((((bit0 v0) ||| (bit0 v1)) ||| (0 : Int64)) ||| (0 : Int64)) ^^^ (-1 : Int64)))) ||| (u1 &&& (((((bit1 v0) ||| (bit1 v1)) ||| (0 : Int64)) ||| (0 : Int64)) ^^^ (-1 : Int64)))) = t1 := by rw [mA, mB, show ((0 : Int64) ^^^ (-1 : Int64)) = -1 from by decide, ht0, ht1]
          refine ⟨Nf, Kp, by rw [mA, mB]; exact V_a, _, rfl, Or.inl ⟨rfl, ?_⟩⟩
          rw [tt]
          exact hc89_3
      · skip
        exfalso
        omega
    · skip
      exfalso
      omega
theorem ef_3_3 (m : MethodId) (a : Addr) (b : Addr) : entryFrame m #[(.ref a), (.ref b)] 8 = mkF m 0 #[.val (.ref a), .val (.ref b), .unset, .unset, .unset, .unset, .unset, .unset] [] := by first | (simp [entryFrame, mkF, argsToLocals, Value.category]; done) | rfl
def Q3_3 (Z : State) (a : Addr) (b : Addr) (ka : ClassId) (u0 : Int64) (u1 : Int64) (kb : ClassId) (v0 : Int32) (v1 : Int32) (v2 : Int32) (h0 : Heap) (n0 : Nat) (v : Option Value) (h : Heap) (L : List Loc) : Prop := Fr n0 L ∧ Keep h0 h [a] ∧ Arv Z h a ka .long (2 : Int32) [(.long (u0 &&& ((((bit0 v0) ||| (bit0 v1)) ||| (bit0 v2)) ||| (0 : Int64)))), (.long (u1 &&& ((((bit1 v0) ||| (bit1 v1)) ||| (bit1 v2)) ||| (0 : Int64))))] (.long (0 : Int64)) ∧ (∃ z : Int32, v = some (.int z) ∧ ((z.toInt = 1 ∧ (¬ ((((0 : Int64) ||| (u0 &&& (((((bit0 v0) ||| (bit0 v1)) ||| (bit0 v2)) ||| (0 : Int64)) ^^^ (-1 : Int64)))) ||| (u1 &&& (((((bit1 v0) ||| (bit1 v1)) ||| (bit1 v2)) ||| (0 : Int64)) ^^^ (-1 : Int64))))).toInt = 0)) ∨ (z.toInt = 0 ∧ ¬ (¬ ((((0 : Int64) ||| (u0 &&& (((((bit0 v0) ||| (bit0 v1)) ||| (bit0 v2)) ||| (0 : Int64)) ^^^ (-1 : Int64)))) ||| (u1 &&& (((((bit1 v0) ||| (bit1 v1)) ||| (bit1 v2)) ||| (0 : Int64)) ^^^ (-1 : Int64))))).toInt = 0))))
set_option maxRecDepth 65536 in
set_option maxHeartbeats 40000000 in
theorem rm3_3 (l : Launch) (Z : State) (a0 : Array Value) (hw : ∀ d ∈ tables_1, d.before a0 Z = true) (ws : List Jvm.Cond) (a : Addr) (b : Addr) (ka : ClassId) (u0 : Int64) (u1 : Int64) (kb : ClassId) (v0 : Int32) (v1 : Int32) (v2 : Int32) (h0 : Heap) (n0 : Nat) (Zs : n0 ≤ h0.size) (V_a : Arv Z h0 a ka .long (2 : Int32) [(.long u0), (.long u1)] (.long (0 : Int64))) (V_b : Arv Z h0 b kb .int (3 : Int32) [(.int v0), (.int v1), (.int v2)] (.int (0 : Int32))) (g_a : n0 ≤ a) (ne_b_a : b ≠ a) (hv : 0 ≤ v0.toInt ∧ v0.toInt < v1.toInt ∧ v1.toInt < v2.toInt ∧ v2.toInt < 128) :
    MetFree l (⟨"com/example/faithful_deputy/faithfuldeputy/Bits", "keepOnly", "([J[I)Z"⟩ : MethodName) (head1 (Jvm.Cond.code (⟨"com/example/faithful_deputy/faithfuldeputy/Bits", "keepOnly", "([J[I)Z"⟩ : MethodName) prog_2_method_8_code 8 (some .boolean) :: ws) ({ frames := 0, cells := 0, slots := 0, locals := 0 } : Room)) (fun as' U => as' = #[(.ref a), (.ref b)] ∧ Z.Warmed39 U.vm ∧ U.heap = h0) (fun _ _ _ _ _ => True) (fun _ U o U' => ∃ v L, o = .returned v ∧ Q3_3 Z a b ka u0 u1 kb v0 v1 v2 h0 n0 v U'.heap L ∧ FrameEnd U o U' L ({ frames := 0, cells := 0, slots := 0, locals := 0 } : Room).cells ({ frames := 0, cells := 0, slots := 0, locals := 0 } : Room).slots) := by
  refine MetFree.of_bodySF (plainFor_of_name pn_3) hisR ?_
  intro p e s m args below meth c s₁ Bd hml0 hP hK
  obtain ⟨rfl, hZ, hh⟩ := hP
  have hx := Bd.exec
  have hby := Bd.bytes
  have hml : c.maxLocals = 8 := hml0
  have hown : s.vm.findClass "com/example/faithful_deputy/faithfuldeputy/Bits" = some m.cls := findClass_of_methodNamed Bd.named
  have hnm := (name_of_methodNamed Bd.named Bd.method).1
  have hlk : meth.locks = false := Bd.notSynchronized
  have X0 : Stand p l e ({ frames := 0, cells := 0, slots := 0, locals := 0 } : Room) s m #[(.ref a), (.ref b)] below meth c s₁ [] 0 0 := Stand.of_body Bd
  have e0 : s₁.heap = h0 := by rw [← hh, Bd.state]; rfl
  have Nf := Fr.nil n0
  refine (?_ : Win p.tables e below (PostQ s (Q3_3 Z a b ka u0 u1 kb v0 v1 v2 h0 n0) ({ frames := 0, cells := 0, slots := 0, locals := 0 } : Room).cells ({ frames := 0, cells := 0, slots := 0, locals := 0 } : Room).slots) (s₁.setTop (entryFrame m #[(.ref a), (.ref b)] 8)))
  rw [ef_3_3]
  have Kp : Keep h0 h0 [a] := Keep.refl h0 _
  have lt_a : a < h0.size := V_a.lt
  have lt_b : b < h0.size := V_b.lt
  have d0 := own_d (v := v0) (by omega)
  have d1 := own_d (v := v1) (by omega)
  have d2 := own_d (v := v2) (by omega)
  show Win p.tables e below _ (s₁.setTop (mkF m 0 #[.val (.ref a), .val (.ref b), .unset, .unset, .unset, .unset, .unset, .unset] []))
  refine s_lconst (pc' := 1) (z := (0 : Int64)) X0.here hx (hb hby d3_0) rfl rfl ?_
  refine s_lstoreN (pc' := 2) (l' := #[.val (.ref a), .val (.ref b), .val (.long (0 : Int64)), .second, .unset, .unset, .unset, .unset]) X0.here hx (hb hby d3_1) rfl rfl ?_
  refine s_iconst (pc' := 3) (z := (0 : Int32)) X0.here hx (hb hby d3_2) rfl rfl ?_
  refine s_istore (pc' := 5) (l' := #[.val (.ref a), .val (.ref b), .val (.long (0 : Int64)), .second, .val (.int (0 : Int32)), .unset, .unset, .unset]) X0.here hx (hb hby d3_3) rfl rfl ?_
  refine s_iconst (pc' := 6) (z := (0 : Int32)) X0.here hx (hb hby d3_5) rfl rfl ?_
  refine s_istore (pc' := 8) (l' := #[.val (.ref a), .val (.ref b), .val (.long (0 : Int64)), .second, .val (.int (0 : Int32)), .val (.int (0 : Int32)), .unset, .unset]) X0.here hx (hb hby d3_6) rfl rfl ?_
  refine s_iload (pc' := 10) X0.here hx (hb hby d3_8) rfl rfl ?_
  refine s_aloadN (pc' := 11) X0.here hx (hb hby d3_10) rfl rfl rfl ?_
  obtain ⟨cl_97, Ar_97, q_97, S_97, N_97, H_97, G_97⟩ := id V_a
  refine Win.go (fun _ k => X0.arraylength hx (by rw [e0]; exact Ar_97.1) (State.isArrayOf_alike hZ.alike Ar_97.2.1) (g := (mkF m 11 #[.val (.ref a), .val (.ref b), .val (.long (0 : Int64)), .second, .val (.int (0 : Int32)), .val (.int (0 : Int32)), .unset, .unset] [(.ref a), (.int (0 : Int32))])) rfl rfl (hb hby d3_11) _ k) ?_
  rw [len_of S_97 N_97]
  clear Ar_97 q_97 S_97 N_97 H_97 G_97
  show Win p.tables e below _ (s₁.setTop (mkF m 12 #[.val (.ref a), .val (.ref b), .val (.long (0 : Int64)), .second, .val (.int (0 : Int32)), .val (.int (0 : Int32)), .unset, .unset] [(.int (2 : Int32)), (.int (0 : Int32))]))
  refine s_icmpNo (pc' := 15) X0.here hx (hb hby d3_12) rfl (tltI (x := (0 : Int32)) (y := (2 : Int32)) (by decide)).2.1 ?_
  refine s_lconst (pc' := 16) (z := (0 : Int64)) X0.here hx (hb hby d3_15) rfl rfl ?_
  refine s_lstore (pc' := 18) (l' := #[.val (.ref a), .val (.ref b), .val (.long (0 : Int64)), .second, .val (.int (0 : Int32)), .val (.int (0 : Int32)), .val (.long (0 : Int64)), .second]) X0.here hx (hb hby d3_16) rfl rfl ?_
  refine s_iload (pc' := 20) X0.here hx (hb hby d3_18) rfl rfl ?_
  refine s_aloadN (pc' := 21) X0.here hx (hb hby d3_20) rfl rfl rfl ?_
  obtain ⟨cl_98, Ar_98, q_98, S_98, N_98, H_98, G_98⟩ := id V_b
  refine Win.go (fun _ k => X0.arraylength hx (by rw [e0]; exact Ar_98.1) (State.isArrayOf_alike hZ.alike Ar_98.2.1) (g := (mkF m 21 #[.val (.ref a), .val (.ref b), .val (.long (0 : Int64)), .second, .val (.int (0 : Int32)), .val (.int (0 : Int32)), .val (.long (0 : Int64)), .second] [(.ref b), (.int (0 : Int32))])) rfl rfl (hb hby d3_21) _ k) ?_
  rw [len_of S_98 N_98]
  clear Ar_98 q_98 S_98 N_98 H_98 G_98
  show Win p.tables e below _ (s₁.setTop (mkF m 22 #[.val (.ref a), .val (.ref b), .val (.long (0 : Int64)), .second, .val (.int (0 : Int32)), .val (.int (0 : Int32)), .val (.long (0 : Int64)), .second] [(.int (3 : Int32)), (.int (0 : Int32))]))
  refine s_icmpNo (pc' := 25) X0.here hx (hb hby d3_22) rfl (tltI (x := (0 : Int32)) (y := (3 : Int32)) (by decide)).2.1 ?_
  refine s_aloadN (pc' := 26) X0.here hx (hb hby d3_25) rfl rfl rfl ?_
  refine s_iload (pc' := 28) X0.here hx (hb hby d3_26) rfl rfl ?_
  obtain ⟨cl_99, Ar_99, q_99, S_99, N_99, H_99, G_99⟩ := id V_b
  have hi_99 : ¬ ((0 : Int32) < 0 ∨ cl_99.slots.size ≤ ((0 : Int32)).toNatClampNeg) := inb_of S_99 ⟨by decide, by decide⟩
  refine Win.go (fun _ k => X0.iaload hx (j := (0 : Int32)) (v := (.int v0)) (by rw [e0]; exact Ar_99.1) (State.isArrayOf_alike hZ.alike Ar_99.2.1) Ar_99.2.2 hi_99 (H_99.at hi_99 rfl) (g := (mkF m 28 #[.val (.ref a), .val (.ref b), .val (.long (0 : Int64)), .second, .val (.int (0 : Int32)), .val (.int (0 : Int32)), .val (.long (0 : Int64)), .second] [(.int (0 : Int32)), (.ref b)])) rfl rfl (hb hby d3_28) _ k) ?_
  show Win p.tables e below _ (s₁.setTop (mkF m 29 #[.val (.ref a), .val (.ref b), .val (.long (0 : Int64)), .second, .val (.int (0 : Int32)), .val (.int (0 : Int32)), .val (.long (0 : Int64)), .second] [(.int v0)]))
  clear Ar_99 q_99 S_99 N_99 H_99 G_99 hi_99
  refine s_bipush (pc' := 31) (z := (64 : Int32)) X0.here hx (hb hby d3_29) rfl rfl ?_
  refine Win.go (fun _ k => XS.idiv X0.here hx rfl (hb hby d3_31) rfl (by decide) k) ?_
  show Win p.tables e below _ (s₁.setTop (mkF m 32 #[.val (.ref a), .val (.ref b), .val (.long (0 : Int64)), .second, .val (.int (0 : Int32)), .val (.int (0 : Int32)), .val (.long (0 : Int64)), .second] [(.int (v0 / (64 : Int32)))]))
  refine s_iload (pc' := 34) X0.here hx (hb hby d3_32) rfl rfl ?_
  by_cases hc34_0 : ((v0 / (64 : Int32))).toInt = (0 : Int)
  · skip
    refine s_icmpNo (pc' := 37) X0.here hx (hb hby d3_34) rfl (teqI (x := (v0 / (64 : Int32))) (y := (0 : Int32)) hc34_0).2 ?_
    refine s_lload (pc' := 39) X0.here hx (hb hby d3_37) rfl rfl ?_
    refine s_lconst (pc' := 40) (z := (1 : Int64)) X0.here hx (hb hby d3_39) rfl rfl ?_
    refine s_aloadN (pc' := 41) X0.here hx (hb hby d3_40) rfl rfl rfl ?_
    refine s_iload (pc' := 43) X0.here hx (hb hby d3_41) rfl rfl ?_
    obtain ⟨cl_100, Ar_100, q_100, S_100, N_100, H_100, G_100⟩ := id V_b
    have hi_100 : ¬ ((0 : Int32) < 0 ∨ cl_100.slots.size ≤ ((0 : Int32)).toNatClampNeg) := inb_of S_100 ⟨by decide, by decide⟩
    refine Win.go (fun _ k => X0.iaload hx (j := (0 : Int32)) (v := (.int v0)) (by rw [e0]; exact Ar_100.1) (State.isArrayOf_alike hZ.alike Ar_100.2.1) Ar_100.2.2 hi_100 (H_100.at hi_100 rfl) (g := (mkF m 43 #[.val (.ref a), .val (.ref b), .val (.long (0 : Int64)), .second, .val (.int (0 : Int32)), .val (.int (0 : Int32)), .val (.long (0 : Int64)), .second] [(.int (0 : Int32)), (.ref b), (.long (1 : Int64)), (.long (0 : Int64))])) rfl rfl (hb hby d3_43) _ k) ?_
    show Win p.tables e below _ (s₁.setTop (mkF m 44 #[.val (.ref a), .val (.ref b), .val (.long (0 : Int64)), .second, .val (.int (0 : Int32)), .val (.int (0 : Int32)), .val (.long (0 : Int64)), .second] [(.int v0), (.long (1 : Int64)), (.long (0 : Int64))]))
    clear Ar_100 q_100 S_100 N_100 H_100 G_100 hi_100
    refine s_bipush (pc' := 46) (z := (64 : Int32)) X0.here hx (hb hby d3_44) rfl rfl ?_
    refine Win.go (fun _ k => iremM X0 hx rfl (hb hby d3_46) rfl (by decide) k) ?_
    show Win p.tables e below _ (s₁.setTop (mkF m 47 #[.val (.ref a), .val (.ref b), .val (.long (0 : Int64)), .second, .val (.int (0 : Int32)), .val (.int (0 : Int32)), .val (.long (0 : Int64)), .second] [(.int (v0 % (64 : Int32))), (.long (1 : Int64)), (.long (0 : Int64))]))
    refine Win.go (fun _ k => XT.lshl X0.here hx rfl (hb hby d3_47) rfl k) ?_
    show Win p.tables e below _ (s₁.setTop (mkF m 48 #[.val (.ref a), .val (.ref b), .val (.long (0 : Int64)), .second, .val (.int (0 : Int32)), .val (.int (0 : Int32)), .val (.long (0 : Int64)), .second] [(.long ((1 : Int64) <<< ((v0 % (64 : Int32)).toInt64 &&& 63))), (.long (0 : Int64))]))
    refine s_lor (pc' := 49) X0.here hx (hb hby d3_48) rfl ?_
    refine s_lstore (pc' := 51) (l' := #[.val (.ref a), .val (.ref b), .val (.long (0 : Int64)), .second, .val (.int (0 : Int32)), .val (.int (0 : Int32)), .val (.long ((0 : Int64) ||| ((1 : Int64) <<< ((v0 % (64 : Int32)).toInt64 &&& 63)))), .second]) X0.here hx (hb hby d3_49) rfl rfl ?_
    generalize hmk0_0 : ((0 : Int64) ||| ((1 : Int64) <<< ((v0 % (64 : Int32)).toInt64 &&& 63))) = mk0_0
    show Win p.tables e below _ (s₁.setTop (mkF m 51 #[.val (.ref a), .val (.ref b), .val (.long (0 : Int64)), .second, .val (.int (0 : Int32)), .val (.int (0 : Int32)), .val (.long mk0_0), .second] []))
    refine Win.go (fun _ k => XS.iinc X0.here hx rfl (hb hby d3_51) rfl (l' := #[.val (.ref a), .val (.ref b), .val (.long (0 : Int64)), .second, .val (.int (1 : Int32)), .val (.int (0 : Int32)), .val (.long mk0_0), .second]) rfl k) ?_
    show Win p.tables e below _ (s₁.setTop (mkF m 54 #[.val (.ref a), .val (.ref b), .val (.long (0 : Int64)), .second, .val (.int (1 : Int32)), .val (.int (0 : Int32)), .val (.long mk0_0), .second] []))
    refine s_goto (pc' := 18) X0.here hx (hb hby d3_54) (by decide) (by decide) ?_
    refine s_iload (pc' := 20) X0.here hx (hb hby d3_18) rfl rfl ?_
    refine s_aloadN (pc' := 21) X0.here hx (hb hby d3_20) rfl rfl rfl ?_
    obtain ⟨cl_101, Ar_101, q_101, S_101, N_101, H_101, G_101⟩ := id V_b
    refine Win.go (fun _ k => X0.arraylength hx (by rw [e0]; exact Ar_101.1) (State.isArrayOf_alike hZ.alike Ar_101.2.1) (g := (mkF m 21 #[.val (.ref a), .val (.ref b), .val (.long (0 : Int64)), .second, .val (.int (1 : Int32)), .val (.int (0 : Int32)), .val (.long mk0_0), .second] [(.ref b), (.int (1 : Int32))])) rfl rfl (hb hby d3_21) _ k) ?_
    rw [len_of S_101 N_101]
    clear Ar_101 q_101 S_101 N_101 H_101 G_101
    show Win p.tables e below _ (s₁.setTop (mkF m 22 #[.val (.ref a), .val (.ref b), .val (.long (0 : Int64)), .second, .val (.int (1 : Int32)), .val (.int (0 : Int32)), .val (.long mk0_0), .second] [(.int (3 : Int32)), (.int (1 : Int32))]))
    refine s_icmpNo (pc' := 25) X0.here hx (hb hby d3_22) rfl (tltI (x := (1 : Int32)) (y := (3 : Int32)) (by decide)).2.1 ?_
    refine s_aloadN (pc' := 26) X0.here hx (hb hby d3_25) rfl rfl rfl ?_
    refine s_iload (pc' := 28) X0.here hx (hb hby d3_26) rfl rfl ?_
    obtain ⟨cl_102, Ar_102, q_102, S_102, N_102, H_102, G_102⟩ := id V_b
    have hi_102 : ¬ ((1 : Int32) < 0 ∨ cl_102.slots.size ≤ ((1 : Int32)).toNatClampNeg) := inb_of S_102 ⟨by decide, by decide⟩
    refine Win.go (fun _ k => X0.iaload hx (j := (1 : Int32)) (v := (.int v1)) (by rw [e0]; exact Ar_102.1) (State.isArrayOf_alike hZ.alike Ar_102.2.1) Ar_102.2.2 hi_102 (H_102.at hi_102 rfl) (g := (mkF m 28 #[.val (.ref a), .val (.ref b), .val (.long (0 : Int64)), .second, .val (.int (1 : Int32)), .val (.int (0 : Int32)), .val (.long mk0_0), .second] [(.int (1 : Int32)), (.ref b)])) rfl rfl (hb hby d3_28) _ k) ?_
    show Win p.tables e below _ (s₁.setTop (mkF m 29 #[.val (.ref a), .val (.ref b), .val (.long (0 : Int64)), .second, .val (.int (1 : Int32)), .val (.int (0 : Int32)), .val (.long mk0_0), .second] [(.int v1)]))
    clear Ar_102 q_102 S_102 N_102 H_102 G_102 hi_102
    refine s_bipush (pc' := 31) (z := (64 : Int32)) X0.here hx (hb hby d3_29) rfl rfl ?_
    refine Win.go (fun _ k => XS.idiv X0.here hx rfl (hb hby d3_31) rfl (by decide) k) ?_
    show Win p.tables e below _ (s₁.setTop (mkF m 32 #[.val (.ref a), .val (.ref b), .val (.long (0 : Int64)), .second, .val (.int (1 : Int32)), .val (.int (0 : Int32)), .val (.long mk0_0), .second] [(.int (v1 / (64 : Int32)))]))
    refine s_iload (pc' := 34) X0.here hx (hb hby d3_32) rfl rfl ?_
    by_cases hc34_1 : ((v1 / (64 : Int32))).toInt = (0 : Int)
    · skip
      refine s_icmpNo (pc' := 37) X0.here hx (hb hby d3_34) rfl (teqI (x := (v1 / (64 : Int32))) (y := (0 : Int32)) hc34_1).2 ?_
      refine s_lload (pc' := 39) X0.here hx (hb hby d3_37) rfl rfl ?_
      refine s_lconst (pc' := 40) (z := (1 : Int64)) X0.here hx (hb hby d3_39) rfl rfl ?_
      refine s_aloadN (pc' := 41) X0.here hx (hb hby d3_40) rfl rfl rfl ?_
      refine s_iload (pc' := 43) X0.here hx (hb hby d3_41) rfl rfl ?_
      obtain ⟨cl_103, Ar_103, q_103, S_103, N_103, H_103, G_103⟩ := id V_b
      have hi_103 : ¬ ((1 : Int32) < 0 ∨ cl_103.slots.size ≤ ((1 : Int32)).toNatClampNeg) := inb_of S_103 ⟨by decide, by decide⟩
      refine Win.go (fun _ k => X0.iaload hx (j := (1 : Int32)) (v := (.int v1)) (by rw [e0]; exact Ar_103.1) (State.isArrayOf_alike hZ.alike Ar_103.2.1) Ar_103.2.2 hi_103 (H_103.at hi_103 rfl) (g := (mkF m 43 #[.val (.ref a), .val (.ref b), .val (.long (0 : Int64)), .second, .val (.int (1 : Int32)), .val (.int (0 : Int32)), .val (.long mk0_0), .second] [(.int (1 : Int32)), (.ref b), (.long (1 : Int64)), (.long mk0_0)])) rfl rfl (hb hby d3_43) _ k) ?_
      show Win p.tables e below _ (s₁.setTop (mkF m 44 #[.val (.ref a), .val (.ref b), .val (.long (0 : Int64)), .second, .val (.int (1 : Int32)), .val (.int (0 : Int32)), .val (.long mk0_0), .second] [(.int v1), (.long (1 : Int64)), (.long mk0_0)]))
      clear Ar_103 q_103 S_103 N_103 H_103 G_103 hi_103
      refine s_bipush (pc' := 46) (z := (64 : Int32)) X0.here hx (hb hby d3_44) rfl rfl ?_
      refine Win.go (fun _ k => iremM X0 hx rfl (hb hby d3_46) rfl (by decide) k) ?_
      show Win p.tables e below _ (s₁.setTop (mkF m 47 #[.val (.ref a), .val (.ref b), .val (.long (0 : Int64)), .second, .val (.int (1 : Int32)), .val (.int (0 : Int32)), .val (.long mk0_0), .second] [(.int (v1 % (64 : Int32))), (.long (1 : Int64)), (.long mk0_0)]))
      refine Win.go (fun _ k => XT.lshl X0.here hx rfl (hb hby d3_47) rfl k) ?_
      show Win p.tables e below _ (s₁.setTop (mkF m 48 #[.val (.ref a), .val (.ref b), .val (.long (0 : Int64)), .second, .val (.int (1 : Int32)), .val (.int (0 : Int32)), .val (.long mk0_0), .second] [(.long ((1 : Int64) <<< ((v1 % (64 : Int32)).toInt64 &&& 63))), (.long mk0_0)]))
      refine s_lor (pc' := 49) X0.here hx (hb hby d3_48) rfl ?_
      refine s_lstore (pc' := 51) (l' := #[.val (.ref a), .val (.ref b), .val (.long (0 : Int64)), .second, .val (.int (1 : Int32)), .val (.int (0 : Int32)), .val (.long (mk0_0 ||| ((1 : Int64) <<< ((v1 % (64 : Int32)).toInt64 &&& 63)))), .second]) X0.here hx (hb hby d3_49) rfl rfl ?_
      generalize hmk0_1 : (mk0_0 ||| ((1 : Int64) <<< ((v1 % (64 : Int32)).toInt64 &&& 63))) = mk0_1
      show Win p.tables e below _ (s₁.setTop (mkF m 51 #[.val (.ref a), .val (.ref b), .val (.long (0 : Int64)), .second, .val (.int (1 : Int32)), .val (.int (0 : Int32)), .val (.long mk0_1), .second] []))
      refine Win.go (fun _ k => XS.iinc X0.here hx rfl (hb hby d3_51) rfl (l' := #[.val (.ref a), .val (.ref b), .val (.long (0 : Int64)), .second, .val (.int (2 : Int32)), .val (.int (0 : Int32)), .val (.long mk0_1), .second]) rfl k) ?_
      show Win p.tables e below _ (s₁.setTop (mkF m 54 #[.val (.ref a), .val (.ref b), .val (.long (0 : Int64)), .second, .val (.int (2 : Int32)), .val (.int (0 : Int32)), .val (.long mk0_1), .second] []))
      refine s_goto (pc' := 18) X0.here hx (hb hby d3_54) (by decide) (by decide) ?_
      refine s_iload (pc' := 20) X0.here hx (hb hby d3_18) rfl rfl ?_
      refine s_aloadN (pc' := 21) X0.here hx (hb hby d3_20) rfl rfl rfl ?_
      obtain ⟨cl_104, Ar_104, q_104, S_104, N_104, H_104, G_104⟩ := id V_b
      refine Win.go (fun _ k => X0.arraylength hx (by rw [e0]; exact Ar_104.1) (State.isArrayOf_alike hZ.alike Ar_104.2.1) (g := (mkF m 21 #[.val (.ref a), .val (.ref b), .val (.long (0 : Int64)), .second, .val (.int (2 : Int32)), .val (.int (0 : Int32)), .val (.long mk0_1), .second] [(.ref b), (.int (2 : Int32))])) rfl rfl (hb hby d3_21) _ k) ?_
      rw [len_of S_104 N_104]
      clear Ar_104 q_104 S_104 N_104 H_104 G_104
      show Win p.tables e below _ (s₁.setTop (mkF m 22 #[.val (.ref a), .val (.ref b), .val (.long (0 : Int64)), .second, .val (.int (2 : Int32)), .val (.int (0 : Int32)), .val (.long mk0_1), .second] [(.int (3 : Int32)), (.int (2 : Int32))]))
      refine s_icmpNo (pc' := 25) X0.here hx (hb hby d3_22) rfl (tltI (x := (2 : Int32)) (y := (3 : Int32)) (by decide)).2.1 ?_
      refine s_aloadN (pc' := 26) X0.here hx (hb hby d3_25) rfl rfl rfl ?_
      refine s_iload (pc' := 28) X0.here hx (hb hby d3_26) rfl rfl ?_
      obtain ⟨cl_105, Ar_105, q_105, S_105, N_105, H_105, G_105⟩ := id V_b
      have hi_105 : ¬ ((2 : Int32) < 0 ∨ cl_105.slots.size ≤ ((2 : Int32)).toNatClampNeg) := inb_of S_105 ⟨by decide, by decide⟩
      refine Win.go (fun _ k => X0.iaload hx (j := (2 : Int32)) (v := (.int v2)) (by rw [e0]; exact Ar_105.1) (State.isArrayOf_alike hZ.alike Ar_105.2.1) Ar_105.2.2 hi_105 (H_105.at hi_105 rfl) (g := (mkF m 28 #[.val (.ref a), .val (.ref b), .val (.long (0 : Int64)), .second, .val (.int (2 : Int32)), .val (.int (0 : Int32)), .val (.long mk0_1), .second] [(.int (2 : Int32)), (.ref b)])) rfl rfl (hb hby d3_28) _ k) ?_
      show Win p.tables e below _ (s₁.setTop (mkF m 29 #[.val (.ref a), .val (.ref b), .val (.long (0 : Int64)), .second, .val (.int (2 : Int32)), .val (.int (0 : Int32)), .val (.long mk0_1), .second] [(.int v2)]))
      clear Ar_105 q_105 S_105 N_105 H_105 G_105 hi_105
      refine s_bipush (pc' := 31) (z := (64 : Int32)) X0.here hx (hb hby d3_29) rfl rfl ?_
      refine Win.go (fun _ k => XS.idiv X0.here hx rfl (hb hby d3_31) rfl (by decide) k) ?_
      show Win p.tables e below _ (s₁.setTop (mkF m 32 #[.val (.ref a), .val (.ref b), .val (.long (0 : Int64)), .second, .val (.int (2 : Int32)), .val (.int (0 : Int32)), .val (.long mk0_1), .second] [(.int (v2 / (64 : Int32)))]))
      refine s_iload (pc' := 34) X0.here hx (hb hby d3_32) rfl rfl ?_
      by_cases hc34_2 : ((v2 / (64 : Int32))).toInt = (0 : Int)
      · skip
        refine s_icmpNo (pc' := 37) X0.here hx (hb hby d3_34) rfl (teqI (x := (v2 / (64 : Int32))) (y := (0 : Int32)) hc34_2).2 ?_
        refine s_lload (pc' := 39) X0.here hx (hb hby d3_37) rfl rfl ?_
        refine s_lconst (pc' := 40) (z := (1 : Int64)) X0.here hx (hb hby d3_39) rfl rfl ?_
        refine s_aloadN (pc' := 41) X0.here hx (hb hby d3_40) rfl rfl rfl ?_
        refine s_iload (pc' := 43) X0.here hx (hb hby d3_41) rfl rfl ?_
        obtain ⟨cl_106, Ar_106, q_106, S_106, N_106, H_106, G_106⟩ := id V_b
        have hi_106 : ¬ ((2 : Int32) < 0 ∨ cl_106.slots.size ≤ ((2 : Int32)).toNatClampNeg) := inb_of S_106 ⟨by decide, by decide⟩
        refine Win.go (fun _ k => X0.iaload hx (j := (2 : Int32)) (v := (.int v2)) (by rw [e0]; exact Ar_106.1) (State.isArrayOf_alike hZ.alike Ar_106.2.1) Ar_106.2.2 hi_106 (H_106.at hi_106 rfl) (g := (mkF m 43 #[.val (.ref a), .val (.ref b), .val (.long (0 : Int64)), .second, .val (.int (2 : Int32)), .val (.int (0 : Int32)), .val (.long mk0_1), .second] [(.int (2 : Int32)), (.ref b), (.long (1 : Int64)), (.long mk0_1)])) rfl rfl (hb hby d3_43) _ k) ?_
        show Win p.tables e below _ (s₁.setTop (mkF m 44 #[.val (.ref a), .val (.ref b), .val (.long (0 : Int64)), .second, .val (.int (2 : Int32)), .val (.int (0 : Int32)), .val (.long mk0_1), .second] [(.int v2), (.long (1 : Int64)), (.long mk0_1)]))
        clear Ar_106 q_106 S_106 N_106 H_106 G_106 hi_106
        refine s_bipush (pc' := 46) (z := (64 : Int32)) X0.here hx (hb hby d3_44) rfl rfl ?_
        refine Win.go (fun _ k => iremM X0 hx rfl (hb hby d3_46) rfl (by decide) k) ?_
        show Win p.tables e below _ (s₁.setTop (mkF m 47 #[.val (.ref a), .val (.ref b), .val (.long (0 : Int64)), .second, .val (.int (2 : Int32)), .val (.int (0 : Int32)), .val (.long mk0_1), .second] [(.int (v2 % (64 : Int32))), (.long (1 : Int64)), (.long mk0_1)]))
        refine Win.go (fun _ k => XT.lshl X0.here hx rfl (hb hby d3_47) rfl k) ?_
        show Win p.tables e below _ (s₁.setTop (mkF m 48 #[.val (.ref a), .val (.ref b), .val (.long (0 : Int64)), .second, .val (.int (2 : Int32)), .val (.int (0 : Int32)), .val (.long mk0_1), .second] [(.long ((1 : Int64) <<< ((v2 % (64 : Int32)).toInt64 &&& 63))), (.long mk0_1)]))
        refine s_lor (pc' := 49) X0.here hx (hb hby d3_48) rfl ?_
        refine s_lstore (pc' := 51) (l' := #[.val (.ref a), .val (.ref b), .val (.long (0 : Int64)), .second, .val (.int (2 : Int32)), .val (.int (0 : Int32)), .val (.long (mk0_1 ||| ((1 : Int64) <<< ((v2 % (64 : Int32)).toInt64 &&& 63)))), .second]) X0.here hx (hb hby d3_49) rfl rfl ?_
        generalize hmk0_2 : (mk0_1 ||| ((1 : Int64) <<< ((v2 % (64 : Int32)).toInt64 &&& 63))) = mk0_2
        show Win p.tables e below _ (s₁.setTop (mkF m 51 #[.val (.ref a), .val (.ref b), .val (.long (0 : Int64)), .second, .val (.int (2 : Int32)), .val (.int (0 : Int32)), .val (.long mk0_2), .second] []))
        refine Win.go (fun _ k => XS.iinc X0.here hx rfl (hb hby d3_51) rfl (l' := #[.val (.ref a), .val (.ref b), .val (.long (0 : Int64)), .second, .val (.int (3 : Int32)), .val (.int (0 : Int32)), .val (.long mk0_2), .second]) rfl k) ?_
        show Win p.tables e below _ (s₁.setTop (mkF m 54 #[.val (.ref a), .val (.ref b), .val (.long (0 : Int64)), .second, .val (.int (3 : Int32)), .val (.int (0 : Int32)), .val (.long mk0_2), .second] []))
        refine s_goto (pc' := 18) X0.here hx (hb hby d3_54) (by decide) (by decide) ?_
        refine s_iload (pc' := 20) X0.here hx (hb hby d3_18) rfl rfl ?_
        refine s_aloadN (pc' := 21) X0.here hx (hb hby d3_20) rfl rfl rfl ?_
        obtain ⟨cl_107, Ar_107, q_107, S_107, N_107, H_107, G_107⟩ := id V_b
        refine Win.go (fun _ k => X0.arraylength hx (by rw [e0]; exact Ar_107.1) (State.isArrayOf_alike hZ.alike Ar_107.2.1) (g := (mkF m 21 #[.val (.ref a), .val (.ref b), .val (.long (0 : Int64)), .second, .val (.int (3 : Int32)), .val (.int (0 : Int32)), .val (.long mk0_2), .second] [(.ref b), (.int (3 : Int32))])) rfl rfl (hb hby d3_21) _ k) ?_
        rw [len_of S_107 N_107]
        clear Ar_107 q_107 S_107 N_107 H_107 G_107
        show Win p.tables e below _ (s₁.setTop (mkF m 22 #[.val (.ref a), .val (.ref b), .val (.long (0 : Int64)), .second, .val (.int (3 : Int32)), .val (.int (0 : Int32)), .val (.long mk0_2), .second] [(.int (3 : Int32)), (.int (3 : Int32))]))
        refine s_icmpYes (pc' := 57) X0.here hx (hb hby d3_22) (fltI (x := (3 : Int32)) (y := (3 : Int32)) (by decide)).2.1 (by decide) (by decide) ?_
        refine s_lloadN (pc' := 58) X0.here hx (hb hby d3_57) rfl rfl ?_
        refine s_aloadN (pc' := 59) X0.here hx (hb hby d3_58) rfl rfl rfl ?_
        refine s_iload (pc' := 61) X0.here hx (hb hby d3_59) rfl rfl ?_
        obtain ⟨cl_108, Ar_108, q_108, S_108, N_108, H_108, G_108⟩ := id V_a
        have hi_108 : ¬ ((0 : Int32) < 0 ∨ cl_108.slots.size ≤ ((0 : Int32)).toNatClampNeg) := inb_of S_108 ⟨by decide, by decide⟩
        refine Win.go (fun _ k => X0.laload hx (j := (0 : Int32)) (v := (.long u0)) (by rw [e0]; exact Ar_108.1) (State.isArrayOf_alike hZ.alike Ar_108.2.1) Ar_108.2.2 hi_108 (H_108.at hi_108 rfl) (g := (mkF m 61 #[.val (.ref a), .val (.ref b), .val (.long (0 : Int64)), .second, .val (.int (3 : Int32)), .val (.int (0 : Int32)), .val (.long mk0_2), .second] [(.int (0 : Int32)), (.ref a), (.long (0 : Int64))])) rfl rfl (hb hby d3_61) _ k) ?_
        show Win p.tables e below _ (s₁.setTop (mkF m 62 #[.val (.ref a), .val (.ref b), .val (.long (0 : Int64)), .second, .val (.int (3 : Int32)), .val (.int (0 : Int32)), .val (.long mk0_2), .second] [(.long u0), (.long (0 : Int64))]))
        clear Ar_108 q_108 S_108 N_108 H_108 G_108 hi_108
        refine s_lload (pc' := 64) X0.here hx (hb hby d3_62) rfl rfl ?_
        refine Win.go (fun _ k => X0.ldc2Long hx hown (mvT hZ (hw _ (List.mem_of_getElem? (i := 14) rfl))) (g := (mkF m 64 #[.val (.ref a), .val (.ref b), .val (.long (0 : Int64)), .second, .val (.int (3 : Int32)), .val (.int (0 : Int32)), .val (.long mk0_2), .second] [(.long mk0_2), (.long u0), (.long (0 : Int64))])) rfl (hb hby d3_64) _ k) ?_
        show Win p.tables e below _ (s₁.setTop (mkF m 67 #[.val (.ref a), .val (.ref b), .val (.long (0 : Int64)), .second, .val (.int (3 : Int32)), .val (.int (0 : Int32)), .val (.long mk0_2), .second] [(.long (-1 : Int64)), (.long mk0_2), (.long u0), (.long (0 : Int64))]))
        refine s_lxor (pc' := 68) X0.here hx (hb hby d3_67) rfl ?_
        refine s_land (pc' := 69) X0.here hx (hb hby d3_68) rfl ?_
        refine s_lor (pc' := 70) X0.here hx (hb hby d3_69) rfl ?_
        refine s_lstoreN (pc' := 71) (l' := #[.val (.ref a), .val (.ref b), .val (.long ((0 : Int64) ||| (u0 &&& (mk0_2 ^^^ (-1 : Int64))))), .second, .val (.int (3 : Int32)), .val (.int (0 : Int32)), .val (.long mk0_2), .second]) X0.here hx (hb hby d3_70) rfl rfl ?_
        generalize ht0 : ((0 : Int64) ||| (u0 &&& (mk0_2 ^^^ (-1 : Int64)))) = t0
        show Win p.tables e below _ (s₁.setTop (mkF m 71 #[.val (.ref a), .val (.ref b), .val (.long t0), .second, .val (.int (3 : Int32)), .val (.int (0 : Int32)), .val (.long mk0_2), .second] []))
        refine s_aloadN (pc' := 72) X0.here hx (hb hby d3_71) rfl rfl rfl ?_
        refine s_iload (pc' := 74) X0.here hx (hb hby d3_72) rfl rfl ?_
        refine Win.go (fun _ k => XT.dup2 X0.here hx rfl (hb hby d3_74) rfl rfl rfl k) ?_
        show Win p.tables e below _ (s₁.setTop (mkF m 75 #[.val (.ref a), .val (.ref b), .val (.long t0), .second, .val (.int (3 : Int32)), .val (.int (0 : Int32)), .val (.long mk0_2), .second] [(.int (0 : Int32)), (.ref a), (.int (0 : Int32)), (.ref a)]))
        obtain ⟨cl_109, Ar_109, q_109, S_109, N_109, H_109, G_109⟩ := id V_a
        have hi_109 : ¬ ((0 : Int32) < 0 ∨ cl_109.slots.size ≤ ((0 : Int32)).toNatClampNeg) := inb_of S_109 ⟨by decide, by decide⟩
        refine Win.go (fun _ k => X0.laload hx (j := (0 : Int32)) (v := (.long u0)) (by rw [e0]; exact Ar_109.1) (State.isArrayOf_alike hZ.alike Ar_109.2.1) Ar_109.2.2 hi_109 (H_109.at hi_109 rfl) (g := (mkF m 75 #[.val (.ref a), .val (.ref b), .val (.long t0), .second, .val (.int (3 : Int32)), .val (.int (0 : Int32)), .val (.long mk0_2), .second] [(.int (0 : Int32)), (.ref a), (.int (0 : Int32)), (.ref a)])) rfl rfl (hb hby d3_75) _ k) ?_
        show Win p.tables e below _ (s₁.setTop (mkF m 76 #[.val (.ref a), .val (.ref b), .val (.long t0), .second, .val (.int (3 : Int32)), .val (.int (0 : Int32)), .val (.long mk0_2), .second] [(.long u0), (.int (0 : Int32)), (.ref a)]))
        clear Ar_109 q_109 S_109 N_109 H_109 G_109 hi_109
        refine s_lload (pc' := 78) X0.here hx (hb hby d3_76) rfl rfl ?_
        refine s_land (pc' := 79) X0.here hx (hb hby d3_78) rfl ?_
        obtain ⟨cl_110, Ar_110, q_110, S_110, N_110, H_110, G_110⟩ := V_a
        obtain ⟨T_110, h_110, X_110, e_110, W_110, st_110⟩ := stJ X0 hx hZ e0 Ar_110 (j := (0 : Int32)) (inb_of S_110 ⟨by decide, by decide⟩) (g := (mkF m 79 #[.val (.ref a), .val (.ref b), .val (.long t0), .second, .val (.int (3 : Int32)), .val (.int (0 : Int32)), .val (.long mk0_2), .second] [(.long (u0 &&& mk0_2)), (.int (0 : Int32)), (.ref a)])) rfl rfl (hb hby d3_79)
        have V_110 := Arv.set Ar_110 q_110 S_110 N_110 H_110 G_110 rfl W_110 0 rfl (Nat.le_of_ble_eq_true rfl)
        replace V_b := V_b.other W_110 ne_b_a
        replace lt_a := Nat.lt_of_lt_of_le lt_a (Keep.of_wr W_110).1
        replace lt_b := Nat.lt_of_lt_of_le lt_b (Keep.of_wr W_110).1
        replace Zs := Nat.le_trans Zs (Keep.of_wr W_110).1
        replace Kp := Kp.wr W_110 (Or.inl (by simp))
        replace V_a : Arv Z h_110 a ka .long (2 : Int32) [(.long (u0 &&& mk0_2)), (.long u1)] (.long (0 : Int64)) := V_110
        replace Nf := Fr.snoc X_110 Nf g_a
        refine Win.go st_110 ?_
        clear st_110 W_110 V_110 Ar_110 q_110 S_110 N_110 H_110 G_110 X0 e0
        show Win p.tables e below _ (T_110.setTop (mkF m 80 #[.val (.ref a), .val (.ref b), .val (.long t0), .second, .val (.int (3 : Int32)), .val (.int (0 : Int32)), .val (.long mk0_2), .second] []))
        refine Win.go (fun _ k => XS.iinc X_110.here hx rfl (hb hby d3_80) rfl (l' := #[.val (.ref a), .val (.ref b), .val (.long t0), .second, .val (.int (3 : Int32)), .val (.int (1 : Int32)), .val (.long mk0_2), .second]) rfl k) ?_
        show Win p.tables e below _ (T_110.setTop (mkF m 83 #[.val (.ref a), .val (.ref b), .val (.long t0), .second, .val (.int (3 : Int32)), .val (.int (1 : Int32)), .val (.long mk0_2), .second] []))
        refine s_goto (pc' := 8) X_110.here hx (hb hby d3_83) (by decide) (by decide) ?_
        refine s_iload (pc' := 10) X_110.here hx (hb hby d3_8) rfl rfl ?_
        refine s_aloadN (pc' := 11) X_110.here hx (hb hby d3_10) rfl rfl rfl ?_
        obtain ⟨cl_111, Ar_111, q_111, S_111, N_111, H_111, G_111⟩ := id V_a
        refine Win.go (fun _ k => X_110.arraylength hx (by rw [e_110]; exact Ar_111.1) (State.isArrayOf_alike hZ.alike Ar_111.2.1) (g := (mkF m 11 #[.val (.ref a), .val (.ref b), .val (.long t0), .second, .val (.int (3 : Int32)), .val (.int (1 : Int32)), .val (.long mk0_2), .second] [(.ref a), (.int (1 : Int32))])) rfl rfl (hb hby d3_11) _ k) ?_
        rw [len_of S_111 N_111]
        clear Ar_111 q_111 S_111 N_111 H_111 G_111
        show Win p.tables e below _ (T_110.setTop (mkF m 12 #[.val (.ref a), .val (.ref b), .val (.long t0), .second, .val (.int (3 : Int32)), .val (.int (1 : Int32)), .val (.long mk0_2), .second] [(.int (2 : Int32)), (.int (1 : Int32))]))
        refine s_icmpNo (pc' := 15) X_110.here hx (hb hby d3_12) rfl (tltI (x := (1 : Int32)) (y := (2 : Int32)) (by decide)).2.1 ?_
        refine s_lconst (pc' := 16) (z := (0 : Int64)) X_110.here hx (hb hby d3_15) rfl rfl ?_
        refine s_lstore (pc' := 18) (l' := #[.val (.ref a), .val (.ref b), .val (.long t0), .second, .val (.int (3 : Int32)), .val (.int (1 : Int32)), .val (.long (0 : Int64)), .second]) X_110.here hx (hb hby d3_16) rfl rfl ?_
        refine s_iload (pc' := 20) X_110.here hx (hb hby d3_18) rfl rfl ?_
        refine s_aloadN (pc' := 21) X_110.here hx (hb hby d3_20) rfl rfl rfl ?_
        obtain ⟨cl_112, Ar_112, q_112, S_112, N_112, H_112, G_112⟩ := id V_b
        refine Win.go (fun _ k => X_110.arraylength hx (by rw [e_110]; exact Ar_112.1) (State.isArrayOf_alike hZ.alike Ar_112.2.1) (g := (mkF m 21 #[.val (.ref a), .val (.ref b), .val (.long t0), .second, .val (.int (3 : Int32)), .val (.int (1 : Int32)), .val (.long (0 : Int64)), .second] [(.ref b), (.int (3 : Int32))])) rfl rfl (hb hby d3_21) _ k) ?_
        rw [len_of S_112 N_112]
        clear Ar_112 q_112 S_112 N_112 H_112 G_112
        show Win p.tables e below _ (T_110.setTop (mkF m 22 #[.val (.ref a), .val (.ref b), .val (.long t0), .second, .val (.int (3 : Int32)), .val (.int (1 : Int32)), .val (.long (0 : Int64)), .second] [(.int (3 : Int32)), (.int (3 : Int32))]))
        refine s_icmpYes (pc' := 57) X_110.here hx (hb hby d3_22) (fltI (x := (3 : Int32)) (y := (3 : Int32)) (by decide)).2.1 (by decide) (by decide) ?_
        refine s_lloadN (pc' := 58) X_110.here hx (hb hby d3_57) rfl rfl ?_
        refine s_aloadN (pc' := 59) X_110.here hx (hb hby d3_58) rfl rfl rfl ?_
        refine s_iload (pc' := 61) X_110.here hx (hb hby d3_59) rfl rfl ?_
        obtain ⟨cl_113, Ar_113, q_113, S_113, N_113, H_113, G_113⟩ := id V_a
        have hi_113 : ¬ ((1 : Int32) < 0 ∨ cl_113.slots.size ≤ ((1 : Int32)).toNatClampNeg) := inb_of S_113 ⟨by decide, by decide⟩
        refine Win.go (fun _ k => X_110.laload hx (j := (1 : Int32)) (v := (.long u1)) (by rw [e_110]; exact Ar_113.1) (State.isArrayOf_alike hZ.alike Ar_113.2.1) Ar_113.2.2 hi_113 (H_113.at hi_113 rfl) (g := (mkF m 61 #[.val (.ref a), .val (.ref b), .val (.long t0), .second, .val (.int (3 : Int32)), .val (.int (1 : Int32)), .val (.long (0 : Int64)), .second] [(.int (1 : Int32)), (.ref a), (.long t0)])) rfl rfl (hb hby d3_61) _ k) ?_
        show Win p.tables e below _ (T_110.setTop (mkF m 62 #[.val (.ref a), .val (.ref b), .val (.long t0), .second, .val (.int (3 : Int32)), .val (.int (1 : Int32)), .val (.long (0 : Int64)), .second] [(.long u1), (.long t0)]))
        clear Ar_113 q_113 S_113 N_113 H_113 G_113 hi_113
        refine s_lload (pc' := 64) X_110.here hx (hb hby d3_62) rfl rfl ?_
        refine Win.go (fun _ k => X_110.ldc2Long hx hown (mvT hZ (hw _ (List.mem_of_getElem? (i := 14) rfl))) (g := (mkF m 64 #[.val (.ref a), .val (.ref b), .val (.long t0), .second, .val (.int (3 : Int32)), .val (.int (1 : Int32)), .val (.long (0 : Int64)), .second] [(.long (0 : Int64)), (.long u1), (.long t0)])) rfl (hb hby d3_64) _ k) ?_
        show Win p.tables e below _ (T_110.setTop (mkF m 67 #[.val (.ref a), .val (.ref b), .val (.long t0), .second, .val (.int (3 : Int32)), .val (.int (1 : Int32)), .val (.long (0 : Int64)), .second] [(.long (-1 : Int64)), (.long (0 : Int64)), (.long u1), (.long t0)]))
        refine Win.go (fun _ k => XS.lxor X_110.here hx rfl (hb hby d3_67) rfl k) ?_
        show Win p.tables e below _ (T_110.setTop (mkF m 68 #[.val (.ref a), .val (.ref b), .val (.long t0), .second, .val (.int (3 : Int32)), .val (.int (1 : Int32)), .val (.long (0 : Int64)), .second] [(.long (-1 : Int64)), (.long u1), (.long t0)]))
        refine s_land (pc' := 69) X_110.here hx (hb hby d3_68) rfl ?_
        refine s_lor (pc' := 70) X_110.here hx (hb hby d3_69) rfl ?_
        refine s_lstoreN (pc' := 71) (l' := #[.val (.ref a), .val (.ref b), .val (.long (t0 ||| (u1 &&& (-1 : Int64)))), .second, .val (.int (3 : Int32)), .val (.int (1 : Int32)), .val (.long (0 : Int64)), .second]) X_110.here hx (hb hby d3_70) rfl rfl ?_
        generalize ht1 : (t0 ||| (u1 &&& (-1 : Int64))) = t1
        show Win p.tables e below _ (T_110.setTop (mkF m 71 #[.val (.ref a), .val (.ref b), .val (.long t1), .second, .val (.int (3 : Int32)), .val (.int (1 : Int32)), .val (.long (0 : Int64)), .second] []))
        refine s_aloadN (pc' := 72) X_110.here hx (hb hby d3_71) rfl rfl rfl ?_
        refine s_iload (pc' := 74) X_110.here hx (hb hby d3_72) rfl rfl ?_
        refine Win.go (fun _ k => XT.dup2 X_110.here hx rfl (hb hby d3_74) rfl rfl rfl k) ?_
        show Win p.tables e below _ (T_110.setTop (mkF m 75 #[.val (.ref a), .val (.ref b), .val (.long t1), .second, .val (.int (3 : Int32)), .val (.int (1 : Int32)), .val (.long (0 : Int64)), .second] [(.int (1 : Int32)), (.ref a), (.int (1 : Int32)), (.ref a)]))
        obtain ⟨cl_114, Ar_114, q_114, S_114, N_114, H_114, G_114⟩ := id V_a
        have hi_114 : ¬ ((1 : Int32) < 0 ∨ cl_114.slots.size ≤ ((1 : Int32)).toNatClampNeg) := inb_of S_114 ⟨by decide, by decide⟩
        refine Win.go (fun _ k => X_110.laload hx (j := (1 : Int32)) (v := (.long u1)) (by rw [e_110]; exact Ar_114.1) (State.isArrayOf_alike hZ.alike Ar_114.2.1) Ar_114.2.2 hi_114 (H_114.at hi_114 rfl) (g := (mkF m 75 #[.val (.ref a), .val (.ref b), .val (.long t1), .second, .val (.int (3 : Int32)), .val (.int (1 : Int32)), .val (.long (0 : Int64)), .second] [(.int (1 : Int32)), (.ref a), (.int (1 : Int32)), (.ref a)])) rfl rfl (hb hby d3_75) _ k) ?_
        show Win p.tables e below _ (T_110.setTop (mkF m 76 #[.val (.ref a), .val (.ref b), .val (.long t1), .second, .val (.int (3 : Int32)), .val (.int (1 : Int32)), .val (.long (0 : Int64)), .second] [(.long u1), (.int (1 : Int32)), (.ref a)]))
        clear Ar_114 q_114 S_114 N_114 H_114 G_114 hi_114
        refine s_lload (pc' := 78) X_110.here hx (hb hby d3_76) rfl rfl ?_
        refine s_land (pc' := 79) X_110.here hx (hb hby d3_78) rfl ?_
        obtain ⟨cl_115, Ar_115, q_115, S_115, N_115, H_115, G_115⟩ := V_a
        obtain ⟨T_115, h_115, X_115, e_115, W_115, st_115⟩ := stJ X_110 hx hZ e_110 Ar_115 (j := (1 : Int32)) (inb_of S_115 ⟨by decide, by decide⟩) (g := (mkF m 79 #[.val (.ref a), .val (.ref b), .val (.long t1), .second, .val (.int (3 : Int32)), .val (.int (1 : Int32)), .val (.long (0 : Int64)), .second] [(.long (u1 &&& (0 : Int64))), (.int (1 : Int32)), (.ref a)])) rfl rfl (hb hby d3_79)
        have V_115 := Arv.set Ar_115 q_115 S_115 N_115 H_115 G_115 rfl W_115 1 rfl (Nat.le_of_ble_eq_true rfl)
        replace V_b := V_b.other W_115 ne_b_a
        replace lt_a := Nat.lt_of_lt_of_le lt_a (Keep.of_wr W_115).1
        replace lt_b := Nat.lt_of_lt_of_le lt_b (Keep.of_wr W_115).1
        replace Zs := Nat.le_trans Zs (Keep.of_wr W_115).1
        replace Kp := Kp.wr W_115 (Or.inl (by simp))
        replace V_a : Arv Z h_115 a ka .long (2 : Int32) [(.long (u0 &&& mk0_2)), (.long (u1 &&& (0 : Int64)))] (.long (0 : Int64)) := V_115
        replace Nf := Fr.snoc X_115 Nf g_a
        refine Win.go st_115 ?_
        clear st_115 W_115 V_115 Ar_115 q_115 S_115 N_115 H_115 G_115 X_110 e_110
        show Win p.tables e below _ (T_115.setTop (mkF m 80 #[.val (.ref a), .val (.ref b), .val (.long t1), .second, .val (.int (3 : Int32)), .val (.int (1 : Int32)), .val (.long (0 : Int64)), .second] []))
        refine Win.go (fun _ k => XS.iinc X_115.here hx rfl (hb hby d3_80) rfl (l' := #[.val (.ref a), .val (.ref b), .val (.long t1), .second, .val (.int (3 : Int32)), .val (.int (2 : Int32)), .val (.long (0 : Int64)), .second]) rfl k) ?_
        show Win p.tables e below _ (T_115.setTop (mkF m 83 #[.val (.ref a), .val (.ref b), .val (.long t1), .second, .val (.int (3 : Int32)), .val (.int (2 : Int32)), .val (.long (0 : Int64)), .second] []))
        refine s_goto (pc' := 8) X_115.here hx (hb hby d3_83) (by decide) (by decide) ?_
        refine s_iload (pc' := 10) X_115.here hx (hb hby d3_8) rfl rfl ?_
        refine s_aloadN (pc' := 11) X_115.here hx (hb hby d3_10) rfl rfl rfl ?_
        obtain ⟨cl_116, Ar_116, q_116, S_116, N_116, H_116, G_116⟩ := id V_a
        refine Win.go (fun _ k => X_115.arraylength hx (by rw [e_115]; exact Ar_116.1) (State.isArrayOf_alike hZ.alike Ar_116.2.1) (g := (mkF m 11 #[.val (.ref a), .val (.ref b), .val (.long t1), .second, .val (.int (3 : Int32)), .val (.int (2 : Int32)), .val (.long (0 : Int64)), .second] [(.ref a), (.int (2 : Int32))])) rfl rfl (hb hby d3_11) _ k) ?_
        rw [len_of S_116 N_116]
        clear Ar_116 q_116 S_116 N_116 H_116 G_116
        show Win p.tables e below _ (T_115.setTop (mkF m 12 #[.val (.ref a), .val (.ref b), .val (.long t1), .second, .val (.int (3 : Int32)), .val (.int (2 : Int32)), .val (.long (0 : Int64)), .second] [(.int (2 : Int32)), (.int (2 : Int32))]))
        refine s_icmpYes (pc' := 86) X_115.here hx (hb hby d3_12) (fltI (x := (2 : Int32)) (y := (2 : Int32)) (by decide)).2.1 (by decide) (by decide) ?_
        refine s_lloadN (pc' := 87) X_115.here hx (hb hby d3_86) rfl rfl ?_
        refine s_lconst (pc' := 88) (z := (0 : Int64)) X_115.here hx (hb hby d3_87) rfl rfl ?_
        refine s_lcmp (pc' := 89) X_115.here hx (hb hby d3_88) rfl ?_
        by_cases hc89_3 : (t1).toInt = (0 : Int)
        · skip
          refine s_ifYes (pc' := 96) X_115.here hx (hb hby d3_89) (teqL (x := t1) (y := (0 : Int64)) hc89_3).1 (by decide) (by decide) ?_
          refine s_iconst (pc' := 97) (z := (0 : Int32)) X_115.here hx (hb hby d3_96) rfl rfl ?_
          refine winN X_115 hx hlk e_115 (t := .boolean) Bd.returns (by simp) (hb hby d3_97) (by decide) (by decide) (z' := (0 : Int32)) rfl ?_
          have e0 := own_lo (v := v0) (by omega) (by omega)
          have e1 := own_lo (v := v1) (by omega) (by omega)
          have e2 := own_lo (v := v2) (by omega) (by omega)
          have mA : ((((bit0 v0) ||| (bit0 v1)) ||| (bit0 v2)) ||| (0 : Int64)) = mk0_2 := by rw [← hmk0_2, ← hmk0_1, ← hmk0_0]; simp only [e0.1, e0.2, e1.1, e1.2, e2.1, e2.2, Int64.or_zero, Int64.zero_or]
          have mB : ((((bit1 v0) ||| (bit1 v1)) ||| (bit1 v2)) ||| (0 : Int64)) = (0 : Int64) := by simp only [e0.1, e0.2, e1.1, e1.2, e2.1, e2.2, Int64.or_zero, Int64.zero_or]
          have tt : (((0 : Int64) ||| (u0 &&& (((((bit0 v0) ||| (bit0 v1)) ||| (bit0 v2)) ||| (0 : Int64)) ^^^ (-1 : Int64)))) ||| (u1 &&& (((((bit1 v0) ||| (bit1 v1)) ||| (bit1 v2)) ||| (0 : Int64)) ^^^ (-1 : Int64)))) = t1 := by rw [mA, mB, show ((0 : Int64) ^^^ (-1 : Int64)) = -1 from by decide, ht0, ht1]
          refine ⟨Nf, Kp, by rw [mA, mB]; exact V_a, _, rfl, Or.inr ⟨rfl, ?_⟩⟩
          rw [tt]
          exact fun q => q hc89_3
        · skip
          refine s_ifNo (pc' := 92) X_115.here hx (hb hby d3_89) rfl (feqL (x := t1) (y := (0 : Int64)) hc89_3).1 ?_
          refine s_iconst (pc' := 93) (z := (1 : Int32)) X_115.here hx (hb hby d3_92) rfl rfl ?_
          refine s_goto (pc' := 97) X_115.here hx (hb hby d3_93) (by decide) (by decide) ?_
          refine winN X_115 hx hlk e_115 (t := .boolean) Bd.returns (by simp) (hb hby d3_97) (by decide) (by decide) (z' := (1 : Int32)) rfl ?_
          have e0 := own_lo (v := v0) (by omega) (by omega)
          have e1 := own_lo (v := v1) (by omega) (by omega)
          have e2 := own_lo (v := v2) (by omega) (by omega)
          have mA : ((((bit0 v0) ||| (bit0 v1)) ||| (bit0 v2)) ||| (0 : Int64)) = mk0_2 := by rw [← hmk0_2, ← hmk0_1, ← hmk0_0]; simp only [e0.1, e0.2, e1.1, e1.2, e2.1, e2.2, Int64.or_zero, Int64.zero_or]
          have mB : ((((bit1 v0) ||| (bit1 v1)) ||| (bit1 v2)) ||| (0 : Int64)) = (0 : Int64) := by simp only [e0.1, e0.2, e1.1, e1.2, e2.1, e2.2, Int64.or_zero, Int64.zero_or]
          have tt : (((0 : Int64) ||| (u0 &&& (((((bit0 v0) ||| (bit0 v1)) ||| (bit0 v2)) ||| (0 : Int64)) ^^^ (-1 : Int64)))) ||| (u1 &&& (((((bit1 v0) ||| (bit1 v1)) ||| (bit1 v2)) ||| (0 : Int64)) ^^^ (-1 : Int64)))) = t1 := by rw [mA, mB, show ((0 : Int64) ^^^ (-1 : Int64)) = -1 from by decide, ht0, ht1]
          refine ⟨Nf, Kp, by rw [mA, mB]; exact V_a, _, rfl, Or.inl ⟨rfl, ?_⟩⟩
          rw [tt]
          exact hc89_3
      · skip
        refine s_icmpYes (pc' := 57) X0.here hx (hb hby d3_34) (feqI (x := (v2 / (64 : Int32))) (y := (0 : Int32)) hc34_2).2 (by decide) (by decide) ?_
        refine s_lloadN (pc' := 58) X0.here hx (hb hby d3_57) rfl rfl ?_
        refine s_aloadN (pc' := 59) X0.here hx (hb hby d3_58) rfl rfl rfl ?_
        refine s_iload (pc' := 61) X0.here hx (hb hby d3_59) rfl rfl ?_
        obtain ⟨cl_117, Ar_117, q_117, S_117, N_117, H_117, G_117⟩ := id V_a
        have hi_117 : ¬ ((0 : Int32) < 0 ∨ cl_117.slots.size ≤ ((0 : Int32)).toNatClampNeg) := inb_of S_117 ⟨by decide, by decide⟩
        refine Win.go (fun _ k => X0.laload hx (j := (0 : Int32)) (v := (.long u0)) (by rw [e0]; exact Ar_117.1) (State.isArrayOf_alike hZ.alike Ar_117.2.1) Ar_117.2.2 hi_117 (H_117.at hi_117 rfl) (g := (mkF m 61 #[.val (.ref a), .val (.ref b), .val (.long (0 : Int64)), .second, .val (.int (2 : Int32)), .val (.int (0 : Int32)), .val (.long mk0_1), .second] [(.int (0 : Int32)), (.ref a), (.long (0 : Int64))])) rfl rfl (hb hby d3_61) _ k) ?_
        show Win p.tables e below _ (s₁.setTop (mkF m 62 #[.val (.ref a), .val (.ref b), .val (.long (0 : Int64)), .second, .val (.int (2 : Int32)), .val (.int (0 : Int32)), .val (.long mk0_1), .second] [(.long u0), (.long (0 : Int64))]))
        clear Ar_117 q_117 S_117 N_117 H_117 G_117 hi_117
        refine s_lload (pc' := 64) X0.here hx (hb hby d3_62) rfl rfl ?_
        refine Win.go (fun _ k => X0.ldc2Long hx hown (mvT hZ (hw _ (List.mem_of_getElem? (i := 14) rfl))) (g := (mkF m 64 #[.val (.ref a), .val (.ref b), .val (.long (0 : Int64)), .second, .val (.int (2 : Int32)), .val (.int (0 : Int32)), .val (.long mk0_1), .second] [(.long mk0_1), (.long u0), (.long (0 : Int64))])) rfl (hb hby d3_64) _ k) ?_
        show Win p.tables e below _ (s₁.setTop (mkF m 67 #[.val (.ref a), .val (.ref b), .val (.long (0 : Int64)), .second, .val (.int (2 : Int32)), .val (.int (0 : Int32)), .val (.long mk0_1), .second] [(.long (-1 : Int64)), (.long mk0_1), (.long u0), (.long (0 : Int64))]))
        refine s_lxor (pc' := 68) X0.here hx (hb hby d3_67) rfl ?_
        refine s_land (pc' := 69) X0.here hx (hb hby d3_68) rfl ?_
        refine s_lor (pc' := 70) X0.here hx (hb hby d3_69) rfl ?_
        refine s_lstoreN (pc' := 71) (l' := #[.val (.ref a), .val (.ref b), .val (.long ((0 : Int64) ||| (u0 &&& (mk0_1 ^^^ (-1 : Int64))))), .second, .val (.int (2 : Int32)), .val (.int (0 : Int32)), .val (.long mk0_1), .second]) X0.here hx (hb hby d3_70) rfl rfl ?_
        generalize ht0 : ((0 : Int64) ||| (u0 &&& (mk0_1 ^^^ (-1 : Int64)))) = t0
        show Win p.tables e below _ (s₁.setTop (mkF m 71 #[.val (.ref a), .val (.ref b), .val (.long t0), .second, .val (.int (2 : Int32)), .val (.int (0 : Int32)), .val (.long mk0_1), .second] []))
        refine s_aloadN (pc' := 72) X0.here hx (hb hby d3_71) rfl rfl rfl ?_
        refine s_iload (pc' := 74) X0.here hx (hb hby d3_72) rfl rfl ?_
        refine Win.go (fun _ k => XT.dup2 X0.here hx rfl (hb hby d3_74) rfl rfl rfl k) ?_
        show Win p.tables e below _ (s₁.setTop (mkF m 75 #[.val (.ref a), .val (.ref b), .val (.long t0), .second, .val (.int (2 : Int32)), .val (.int (0 : Int32)), .val (.long mk0_1), .second] [(.int (0 : Int32)), (.ref a), (.int (0 : Int32)), (.ref a)]))
        obtain ⟨cl_118, Ar_118, q_118, S_118, N_118, H_118, G_118⟩ := id V_a
        have hi_118 : ¬ ((0 : Int32) < 0 ∨ cl_118.slots.size ≤ ((0 : Int32)).toNatClampNeg) := inb_of S_118 ⟨by decide, by decide⟩
        refine Win.go (fun _ k => X0.laload hx (j := (0 : Int32)) (v := (.long u0)) (by rw [e0]; exact Ar_118.1) (State.isArrayOf_alike hZ.alike Ar_118.2.1) Ar_118.2.2 hi_118 (H_118.at hi_118 rfl) (g := (mkF m 75 #[.val (.ref a), .val (.ref b), .val (.long t0), .second, .val (.int (2 : Int32)), .val (.int (0 : Int32)), .val (.long mk0_1), .second] [(.int (0 : Int32)), (.ref a), (.int (0 : Int32)), (.ref a)])) rfl rfl (hb hby d3_75) _ k) ?_
        show Win p.tables e below _ (s₁.setTop (mkF m 76 #[.val (.ref a), .val (.ref b), .val (.long t0), .second, .val (.int (2 : Int32)), .val (.int (0 : Int32)), .val (.long mk0_1), .second] [(.long u0), (.int (0 : Int32)), (.ref a)]))
        clear Ar_118 q_118 S_118 N_118 H_118 G_118 hi_118
        refine s_lload (pc' := 78) X0.here hx (hb hby d3_76) rfl rfl ?_
        refine s_land (pc' := 79) X0.here hx (hb hby d3_78) rfl ?_
        obtain ⟨cl_119, Ar_119, q_119, S_119, N_119, H_119, G_119⟩ := V_a
        obtain ⟨T_119, h_119, X_119, e_119, W_119, st_119⟩ := stJ X0 hx hZ e0 Ar_119 (j := (0 : Int32)) (inb_of S_119 ⟨by decide, by decide⟩) (g := (mkF m 79 #[.val (.ref a), .val (.ref b), .val (.long t0), .second, .val (.int (2 : Int32)), .val (.int (0 : Int32)), .val (.long mk0_1), .second] [(.long (u0 &&& mk0_1)), (.int (0 : Int32)), (.ref a)])) rfl rfl (hb hby d3_79)
        have V_119 := Arv.set Ar_119 q_119 S_119 N_119 H_119 G_119 rfl W_119 0 rfl (Nat.le_of_ble_eq_true rfl)
        replace V_b := V_b.other W_119 ne_b_a
        replace lt_a := Nat.lt_of_lt_of_le lt_a (Keep.of_wr W_119).1
        replace lt_b := Nat.lt_of_lt_of_le lt_b (Keep.of_wr W_119).1
        replace Zs := Nat.le_trans Zs (Keep.of_wr W_119).1
        replace Kp := Kp.wr W_119 (Or.inl (by simp))
        replace V_a : Arv Z h_119 a ka .long (2 : Int32) [(.long (u0 &&& mk0_1)), (.long u1)] (.long (0 : Int64)) := V_119
        replace Nf := Fr.snoc X_119 Nf g_a
        refine Win.go st_119 ?_
        clear st_119 W_119 V_119 Ar_119 q_119 S_119 N_119 H_119 G_119 X0 e0
        show Win p.tables e below _ (T_119.setTop (mkF m 80 #[.val (.ref a), .val (.ref b), .val (.long t0), .second, .val (.int (2 : Int32)), .val (.int (0 : Int32)), .val (.long mk0_1), .second] []))
        refine Win.go (fun _ k => XS.iinc X_119.here hx rfl (hb hby d3_80) rfl (l' := #[.val (.ref a), .val (.ref b), .val (.long t0), .second, .val (.int (2 : Int32)), .val (.int (1 : Int32)), .val (.long mk0_1), .second]) rfl k) ?_
        show Win p.tables e below _ (T_119.setTop (mkF m 83 #[.val (.ref a), .val (.ref b), .val (.long t0), .second, .val (.int (2 : Int32)), .val (.int (1 : Int32)), .val (.long mk0_1), .second] []))
        refine s_goto (pc' := 8) X_119.here hx (hb hby d3_83) (by decide) (by decide) ?_
        refine s_iload (pc' := 10) X_119.here hx (hb hby d3_8) rfl rfl ?_
        refine s_aloadN (pc' := 11) X_119.here hx (hb hby d3_10) rfl rfl rfl ?_
        obtain ⟨cl_120, Ar_120, q_120, S_120, N_120, H_120, G_120⟩ := id V_a
        refine Win.go (fun _ k => X_119.arraylength hx (by rw [e_119]; exact Ar_120.1) (State.isArrayOf_alike hZ.alike Ar_120.2.1) (g := (mkF m 11 #[.val (.ref a), .val (.ref b), .val (.long t0), .second, .val (.int (2 : Int32)), .val (.int (1 : Int32)), .val (.long mk0_1), .second] [(.ref a), (.int (1 : Int32))])) rfl rfl (hb hby d3_11) _ k) ?_
        rw [len_of S_120 N_120]
        clear Ar_120 q_120 S_120 N_120 H_120 G_120
        show Win p.tables e below _ (T_119.setTop (mkF m 12 #[.val (.ref a), .val (.ref b), .val (.long t0), .second, .val (.int (2 : Int32)), .val (.int (1 : Int32)), .val (.long mk0_1), .second] [(.int (2 : Int32)), (.int (1 : Int32))]))
        refine s_icmpNo (pc' := 15) X_119.here hx (hb hby d3_12) rfl (tltI (x := (1 : Int32)) (y := (2 : Int32)) (by decide)).2.1 ?_
        refine s_lconst (pc' := 16) (z := (0 : Int64)) X_119.here hx (hb hby d3_15) rfl rfl ?_
        refine s_lstore (pc' := 18) (l' := #[.val (.ref a), .val (.ref b), .val (.long t0), .second, .val (.int (2 : Int32)), .val (.int (1 : Int32)), .val (.long (0 : Int64)), .second]) X_119.here hx (hb hby d3_16) rfl rfl ?_
        refine s_iload (pc' := 20) X_119.here hx (hb hby d3_18) rfl rfl ?_
        refine s_aloadN (pc' := 21) X_119.here hx (hb hby d3_20) rfl rfl rfl ?_
        obtain ⟨cl_121, Ar_121, q_121, S_121, N_121, H_121, G_121⟩ := id V_b
        refine Win.go (fun _ k => X_119.arraylength hx (by rw [e_119]; exact Ar_121.1) (State.isArrayOf_alike hZ.alike Ar_121.2.1) (g := (mkF m 21 #[.val (.ref a), .val (.ref b), .val (.long t0), .second, .val (.int (2 : Int32)), .val (.int (1 : Int32)), .val (.long (0 : Int64)), .second] [(.ref b), (.int (2 : Int32))])) rfl rfl (hb hby d3_21) _ k) ?_
        rw [len_of S_121 N_121]
        clear Ar_121 q_121 S_121 N_121 H_121 G_121
        show Win p.tables e below _ (T_119.setTop (mkF m 22 #[.val (.ref a), .val (.ref b), .val (.long t0), .second, .val (.int (2 : Int32)), .val (.int (1 : Int32)), .val (.long (0 : Int64)), .second] [(.int (3 : Int32)), (.int (2 : Int32))]))
        refine s_icmpNo (pc' := 25) X_119.here hx (hb hby d3_22) rfl (tltI (x := (2 : Int32)) (y := (3 : Int32)) (by decide)).2.1 ?_
        refine s_aloadN (pc' := 26) X_119.here hx (hb hby d3_25) rfl rfl rfl ?_
        refine s_iload (pc' := 28) X_119.here hx (hb hby d3_26) rfl rfl ?_
        obtain ⟨cl_122, Ar_122, q_122, S_122, N_122, H_122, G_122⟩ := id V_b
        have hi_122 : ¬ ((2 : Int32) < 0 ∨ cl_122.slots.size ≤ ((2 : Int32)).toNatClampNeg) := inb_of S_122 ⟨by decide, by decide⟩
        refine Win.go (fun _ k => X_119.iaload hx (j := (2 : Int32)) (v := (.int v2)) (by rw [e_119]; exact Ar_122.1) (State.isArrayOf_alike hZ.alike Ar_122.2.1) Ar_122.2.2 hi_122 (H_122.at hi_122 rfl) (g := (mkF m 28 #[.val (.ref a), .val (.ref b), .val (.long t0), .second, .val (.int (2 : Int32)), .val (.int (1 : Int32)), .val (.long (0 : Int64)), .second] [(.int (2 : Int32)), (.ref b)])) rfl rfl (hb hby d3_28) _ k) ?_
        show Win p.tables e below _ (T_119.setTop (mkF m 29 #[.val (.ref a), .val (.ref b), .val (.long t0), .second, .val (.int (2 : Int32)), .val (.int (1 : Int32)), .val (.long (0 : Int64)), .second] [(.int v2)]))
        clear Ar_122 q_122 S_122 N_122 H_122 G_122 hi_122
        refine s_bipush (pc' := 31) (z := (64 : Int32)) X_119.here hx (hb hby d3_29) rfl rfl ?_
        refine Win.go (fun _ k => XS.idiv X_119.here hx rfl (hb hby d3_31) rfl (by decide) k) ?_
        show Win p.tables e below _ (T_119.setTop (mkF m 32 #[.val (.ref a), .val (.ref b), .val (.long t0), .second, .val (.int (2 : Int32)), .val (.int (1 : Int32)), .val (.long (0 : Int64)), .second] [(.int (v2 / (64 : Int32)))]))
        refine s_iload (pc' := 34) X_119.here hx (hb hby d3_32) rfl rfl ?_
        by_cases hc34_3 : ((v2 / (64 : Int32))).toInt = (1 : Int)
        · skip
          refine s_icmpNo (pc' := 37) X_119.here hx (hb hby d3_34) rfl (teqI (x := (v2 / (64 : Int32))) (y := (1 : Int32)) hc34_3).2 ?_
          refine s_lload (pc' := 39) X_119.here hx (hb hby d3_37) rfl rfl ?_
          refine s_lconst (pc' := 40) (z := (1 : Int64)) X_119.here hx (hb hby d3_39) rfl rfl ?_
          refine s_aloadN (pc' := 41) X_119.here hx (hb hby d3_40) rfl rfl rfl ?_
          refine s_iload (pc' := 43) X_119.here hx (hb hby d3_41) rfl rfl ?_
          obtain ⟨cl_123, Ar_123, q_123, S_123, N_123, H_123, G_123⟩ := id V_b
          have hi_123 : ¬ ((2 : Int32) < 0 ∨ cl_123.slots.size ≤ ((2 : Int32)).toNatClampNeg) := inb_of S_123 ⟨by decide, by decide⟩
          refine Win.go (fun _ k => X_119.iaload hx (j := (2 : Int32)) (v := (.int v2)) (by rw [e_119]; exact Ar_123.1) (State.isArrayOf_alike hZ.alike Ar_123.2.1) Ar_123.2.2 hi_123 (H_123.at hi_123 rfl) (g := (mkF m 43 #[.val (.ref a), .val (.ref b), .val (.long t0), .second, .val (.int (2 : Int32)), .val (.int (1 : Int32)), .val (.long (0 : Int64)), .second] [(.int (2 : Int32)), (.ref b), (.long (1 : Int64)), (.long (0 : Int64))])) rfl rfl (hb hby d3_43) _ k) ?_
          show Win p.tables e below _ (T_119.setTop (mkF m 44 #[.val (.ref a), .val (.ref b), .val (.long t0), .second, .val (.int (2 : Int32)), .val (.int (1 : Int32)), .val (.long (0 : Int64)), .second] [(.int v2), (.long (1 : Int64)), (.long (0 : Int64))]))
          clear Ar_123 q_123 S_123 N_123 H_123 G_123 hi_123
          refine s_bipush (pc' := 46) (z := (64 : Int32)) X_119.here hx (hb hby d3_44) rfl rfl ?_
          refine Win.go (fun _ k => iremM X_119 hx rfl (hb hby d3_46) rfl (by decide) k) ?_
          show Win p.tables e below _ (T_119.setTop (mkF m 47 #[.val (.ref a), .val (.ref b), .val (.long t0), .second, .val (.int (2 : Int32)), .val (.int (1 : Int32)), .val (.long (0 : Int64)), .second] [(.int (v2 % (64 : Int32))), (.long (1 : Int64)), (.long (0 : Int64))]))
          refine Win.go (fun _ k => XT.lshl X_119.here hx rfl (hb hby d3_47) rfl k) ?_
          show Win p.tables e below _ (T_119.setTop (mkF m 48 #[.val (.ref a), .val (.ref b), .val (.long t0), .second, .val (.int (2 : Int32)), .val (.int (1 : Int32)), .val (.long (0 : Int64)), .second] [(.long ((1 : Int64) <<< ((v2 % (64 : Int32)).toInt64 &&& 63))), (.long (0 : Int64))]))
          refine s_lor (pc' := 49) X_119.here hx (hb hby d3_48) rfl ?_
          refine s_lstore (pc' := 51) (l' := #[.val (.ref a), .val (.ref b), .val (.long t0), .second, .val (.int (2 : Int32)), .val (.int (1 : Int32)), .val (.long ((0 : Int64) ||| ((1 : Int64) <<< ((v2 % (64 : Int32)).toInt64 &&& 63)))), .second]) X_119.here hx (hb hby d3_49) rfl rfl ?_
          generalize hmk1_2 : ((0 : Int64) ||| ((1 : Int64) <<< ((v2 % (64 : Int32)).toInt64 &&& 63))) = mk1_2
          show Win p.tables e below _ (T_119.setTop (mkF m 51 #[.val (.ref a), .val (.ref b), .val (.long t0), .second, .val (.int (2 : Int32)), .val (.int (1 : Int32)), .val (.long mk1_2), .second] []))
          refine Win.go (fun _ k => XS.iinc X_119.here hx rfl (hb hby d3_51) rfl (l' := #[.val (.ref a), .val (.ref b), .val (.long t0), .second, .val (.int (3 : Int32)), .val (.int (1 : Int32)), .val (.long mk1_2), .second]) rfl k) ?_
          show Win p.tables e below _ (T_119.setTop (mkF m 54 #[.val (.ref a), .val (.ref b), .val (.long t0), .second, .val (.int (3 : Int32)), .val (.int (1 : Int32)), .val (.long mk1_2), .second] []))
          refine s_goto (pc' := 18) X_119.here hx (hb hby d3_54) (by decide) (by decide) ?_
          refine s_iload (pc' := 20) X_119.here hx (hb hby d3_18) rfl rfl ?_
          refine s_aloadN (pc' := 21) X_119.here hx (hb hby d3_20) rfl rfl rfl ?_
          obtain ⟨cl_124, Ar_124, q_124, S_124, N_124, H_124, G_124⟩ := id V_b
          refine Win.go (fun _ k => X_119.arraylength hx (by rw [e_119]; exact Ar_124.1) (State.isArrayOf_alike hZ.alike Ar_124.2.1) (g := (mkF m 21 #[.val (.ref a), .val (.ref b), .val (.long t0), .second, .val (.int (3 : Int32)), .val (.int (1 : Int32)), .val (.long mk1_2), .second] [(.ref b), (.int (3 : Int32))])) rfl rfl (hb hby d3_21) _ k) ?_
          rw [len_of S_124 N_124]
          clear Ar_124 q_124 S_124 N_124 H_124 G_124
          show Win p.tables e below _ (T_119.setTop (mkF m 22 #[.val (.ref a), .val (.ref b), .val (.long t0), .second, .val (.int (3 : Int32)), .val (.int (1 : Int32)), .val (.long mk1_2), .second] [(.int (3 : Int32)), (.int (3 : Int32))]))
          refine s_icmpYes (pc' := 57) X_119.here hx (hb hby d3_22) (fltI (x := (3 : Int32)) (y := (3 : Int32)) (by decide)).2.1 (by decide) (by decide) ?_
          refine s_lloadN (pc' := 58) X_119.here hx (hb hby d3_57) rfl rfl ?_
          refine s_aloadN (pc' := 59) X_119.here hx (hb hby d3_58) rfl rfl rfl ?_
          refine s_iload (pc' := 61) X_119.here hx (hb hby d3_59) rfl rfl ?_
          obtain ⟨cl_125, Ar_125, q_125, S_125, N_125, H_125, G_125⟩ := id V_a
          have hi_125 : ¬ ((1 : Int32) < 0 ∨ cl_125.slots.size ≤ ((1 : Int32)).toNatClampNeg) := inb_of S_125 ⟨by decide, by decide⟩
          refine Win.go (fun _ k => X_119.laload hx (j := (1 : Int32)) (v := (.long u1)) (by rw [e_119]; exact Ar_125.1) (State.isArrayOf_alike hZ.alike Ar_125.2.1) Ar_125.2.2 hi_125 (H_125.at hi_125 rfl) (g := (mkF m 61 #[.val (.ref a), .val (.ref b), .val (.long t0), .second, .val (.int (3 : Int32)), .val (.int (1 : Int32)), .val (.long mk1_2), .second] [(.int (1 : Int32)), (.ref a), (.long t0)])) rfl rfl (hb hby d3_61) _ k) ?_
          show Win p.tables e below _ (T_119.setTop (mkF m 62 #[.val (.ref a), .val (.ref b), .val (.long t0), .second, .val (.int (3 : Int32)), .val (.int (1 : Int32)), .val (.long mk1_2), .second] [(.long u1), (.long t0)]))
          clear Ar_125 q_125 S_125 N_125 H_125 G_125 hi_125
          refine s_lload (pc' := 64) X_119.here hx (hb hby d3_62) rfl rfl ?_
          refine Win.go (fun _ k => X_119.ldc2Long hx hown (mvT hZ (hw _ (List.mem_of_getElem? (i := 14) rfl))) (g := (mkF m 64 #[.val (.ref a), .val (.ref b), .val (.long t0), .second, .val (.int (3 : Int32)), .val (.int (1 : Int32)), .val (.long mk1_2), .second] [(.long mk1_2), (.long u1), (.long t0)])) rfl (hb hby d3_64) _ k) ?_
          show Win p.tables e below _ (T_119.setTop (mkF m 67 #[.val (.ref a), .val (.ref b), .val (.long t0), .second, .val (.int (3 : Int32)), .val (.int (1 : Int32)), .val (.long mk1_2), .second] [(.long (-1 : Int64)), (.long mk1_2), (.long u1), (.long t0)]))
          refine s_lxor (pc' := 68) X_119.here hx (hb hby d3_67) rfl ?_
          refine s_land (pc' := 69) X_119.here hx (hb hby d3_68) rfl ?_
          refine s_lor (pc' := 70) X_119.here hx (hb hby d3_69) rfl ?_
          refine s_lstoreN (pc' := 71) (l' := #[.val (.ref a), .val (.ref b), .val (.long (t0 ||| (u1 &&& (mk1_2 ^^^ (-1 : Int64))))), .second, .val (.int (3 : Int32)), .val (.int (1 : Int32)), .val (.long mk1_2), .second]) X_119.here hx (hb hby d3_70) rfl rfl ?_
          generalize ht1 : (t0 ||| (u1 &&& (mk1_2 ^^^ (-1 : Int64)))) = t1
          show Win p.tables e below _ (T_119.setTop (mkF m 71 #[.val (.ref a), .val (.ref b), .val (.long t1), .second, .val (.int (3 : Int32)), .val (.int (1 : Int32)), .val (.long mk1_2), .second] []))
          refine s_aloadN (pc' := 72) X_119.here hx (hb hby d3_71) rfl rfl rfl ?_
          refine s_iload (pc' := 74) X_119.here hx (hb hby d3_72) rfl rfl ?_
          refine Win.go (fun _ k => XT.dup2 X_119.here hx rfl (hb hby d3_74) rfl rfl rfl k) ?_
          show Win p.tables e below _ (T_119.setTop (mkF m 75 #[.val (.ref a), .val (.ref b), .val (.long t1), .second, .val (.int (3 : Int32)), .val (.int (1 : Int32)), .val (.long mk1_2), .second] [(.int (1 : Int32)), (.ref a), (.int (1 : Int32)), (.ref a)]))
          obtain ⟨cl_126, Ar_126, q_126, S_126, N_126, H_126, G_126⟩ := id V_a
          have hi_126 : ¬ ((1 : Int32) < 0 ∨ cl_126.slots.size ≤ ((1 : Int32)).toNatClampNeg) := inb_of S_126 ⟨by decide, by decide⟩
          refine Win.go (fun _ k => X_119.laload hx (j := (1 : Int32)) (v := (.long u1)) (by rw [e_119]; exact Ar_126.1) (State.isArrayOf_alike hZ.alike Ar_126.2.1) Ar_126.2.2 hi_126 (H_126.at hi_126 rfl) (g := (mkF m 75 #[.val (.ref a), .val (.ref b), .val (.long t1), .second, .val (.int (3 : Int32)), .val (.int (1 : Int32)), .val (.long mk1_2), .second] [(.int (1 : Int32)), (.ref a), (.int (1 : Int32)), (.ref a)])) rfl rfl (hb hby d3_75) _ k) ?_
          show Win p.tables e below _ (T_119.setTop (mkF m 76 #[.val (.ref a), .val (.ref b), .val (.long t1), .second, .val (.int (3 : Int32)), .val (.int (1 : Int32)), .val (.long mk1_2), .second] [(.long u1), (.int (1 : Int32)), (.ref a)]))
          clear Ar_126 q_126 S_126 N_126 H_126 G_126 hi_126
          refine s_lload (pc' := 78) X_119.here hx (hb hby d3_76) rfl rfl ?_
          refine s_land (pc' := 79) X_119.here hx (hb hby d3_78) rfl ?_
          obtain ⟨cl_127, Ar_127, q_127, S_127, N_127, H_127, G_127⟩ := V_a
          obtain ⟨T_127, h_127, X_127, e_127, W_127, st_127⟩ := stJ X_119 hx hZ e_119 Ar_127 (j := (1 : Int32)) (inb_of S_127 ⟨by decide, by decide⟩) (g := (mkF m 79 #[.val (.ref a), .val (.ref b), .val (.long t1), .second, .val (.int (3 : Int32)), .val (.int (1 : Int32)), .val (.long mk1_2), .second] [(.long (u1 &&& mk1_2)), (.int (1 : Int32)), (.ref a)])) rfl rfl (hb hby d3_79)
          have V_127 := Arv.set Ar_127 q_127 S_127 N_127 H_127 G_127 rfl W_127 1 rfl (Nat.le_of_ble_eq_true rfl)
          replace V_b := V_b.other W_127 ne_b_a
          replace lt_a := Nat.lt_of_lt_of_le lt_a (Keep.of_wr W_127).1
          replace lt_b := Nat.lt_of_lt_of_le lt_b (Keep.of_wr W_127).1
          replace Zs := Nat.le_trans Zs (Keep.of_wr W_127).1
          replace Kp := Kp.wr W_127 (Or.inl (by simp))
          replace V_a : Arv Z h_127 a ka .long (2 : Int32) [(.long (u0 &&& mk0_1)), (.long (u1 &&& mk1_2))] (.long (0 : Int64)) := V_127
          replace Nf := Fr.snoc X_127 Nf g_a
          refine Win.go st_127 ?_
          clear st_127 W_127 V_127 Ar_127 q_127 S_127 N_127 H_127 G_127 X_119 e_119
          show Win p.tables e below _ (T_127.setTop (mkF m 80 #[.val (.ref a), .val (.ref b), .val (.long t1), .second, .val (.int (3 : Int32)), .val (.int (1 : Int32)), .val (.long mk1_2), .second] []))
          refine Win.go (fun _ k => XS.iinc X_127.here hx rfl (hb hby d3_80) rfl (l' := #[.val (.ref a), .val (.ref b), .val (.long t1), .second, .val (.int (3 : Int32)), .val (.int (2 : Int32)), .val (.long mk1_2), .second]) rfl k) ?_
          show Win p.tables e below _ (T_127.setTop (mkF m 83 #[.val (.ref a), .val (.ref b), .val (.long t1), .second, .val (.int (3 : Int32)), .val (.int (2 : Int32)), .val (.long mk1_2), .second] []))
          refine s_goto (pc' := 8) X_127.here hx (hb hby d3_83) (by decide) (by decide) ?_
          refine s_iload (pc' := 10) X_127.here hx (hb hby d3_8) rfl rfl ?_
          refine s_aloadN (pc' := 11) X_127.here hx (hb hby d3_10) rfl rfl rfl ?_
          obtain ⟨cl_128, Ar_128, q_128, S_128, N_128, H_128, G_128⟩ := id V_a
          refine Win.go (fun _ k => X_127.arraylength hx (by rw [e_127]; exact Ar_128.1) (State.isArrayOf_alike hZ.alike Ar_128.2.1) (g := (mkF m 11 #[.val (.ref a), .val (.ref b), .val (.long t1), .second, .val (.int (3 : Int32)), .val (.int (2 : Int32)), .val (.long mk1_2), .second] [(.ref a), (.int (2 : Int32))])) rfl rfl (hb hby d3_11) _ k) ?_
          rw [len_of S_128 N_128]
          clear Ar_128 q_128 S_128 N_128 H_128 G_128
          show Win p.tables e below _ (T_127.setTop (mkF m 12 #[.val (.ref a), .val (.ref b), .val (.long t1), .second, .val (.int (3 : Int32)), .val (.int (2 : Int32)), .val (.long mk1_2), .second] [(.int (2 : Int32)), (.int (2 : Int32))]))
          refine s_icmpYes (pc' := 86) X_127.here hx (hb hby d3_12) (fltI (x := (2 : Int32)) (y := (2 : Int32)) (by decide)).2.1 (by decide) (by decide) ?_
          refine s_lloadN (pc' := 87) X_127.here hx (hb hby d3_86) rfl rfl ?_
          refine s_lconst (pc' := 88) (z := (0 : Int64)) X_127.here hx (hb hby d3_87) rfl rfl ?_
          refine s_lcmp (pc' := 89) X_127.here hx (hb hby d3_88) rfl ?_
          by_cases hc89_4 : (t1).toInt = (0 : Int)
          · skip
            refine s_ifYes (pc' := 96) X_127.here hx (hb hby d3_89) (teqL (x := t1) (y := (0 : Int64)) hc89_4).1 (by decide) (by decide) ?_
            refine s_iconst (pc' := 97) (z := (0 : Int32)) X_127.here hx (hb hby d3_96) rfl rfl ?_
            refine winN X_127 hx hlk e_127 (t := .boolean) Bd.returns (by simp) (hb hby d3_97) (by decide) (by decide) (z' := (0 : Int32)) rfl ?_
            have e0 := own_lo (v := v0) (by omega) (by omega)
            have e1 := own_lo (v := v1) (by omega) (by omega)
            have e2 := own_hi (v := v2) (by omega) (by omega)
            have mA : ((((bit0 v0) ||| (bit0 v1)) ||| (bit0 v2)) ||| (0 : Int64)) = mk0_1 := by rw [← hmk0_1, ← hmk0_0]; simp only [e0.1, e0.2, e1.1, e1.2, e2.1, e2.2, Int64.or_zero, Int64.zero_or]
            have mB : ((((bit1 v0) ||| (bit1 v1)) ||| (bit1 v2)) ||| (0 : Int64)) = mk1_2 := by rw [← hmk1_2]; simp only [e0.1, e0.2, e1.1, e1.2, e2.1, e2.2, Int64.or_zero, Int64.zero_or]
            have tt : (((0 : Int64) ||| (u0 &&& (((((bit0 v0) ||| (bit0 v1)) ||| (bit0 v2)) ||| (0 : Int64)) ^^^ (-1 : Int64)))) ||| (u1 &&& (((((bit1 v0) ||| (bit1 v1)) ||| (bit1 v2)) ||| (0 : Int64)) ^^^ (-1 : Int64)))) = t1 := by rw [mA, mB, ht0, ht1]
            refine ⟨Nf, Kp, by rw [mA, mB]; exact V_a, _, rfl, Or.inr ⟨rfl, ?_⟩⟩
            rw [tt]
            exact fun q => q hc89_4
          · skip
            refine s_ifNo (pc' := 92) X_127.here hx (hb hby d3_89) rfl (feqL (x := t1) (y := (0 : Int64)) hc89_4).1 ?_
            refine s_iconst (pc' := 93) (z := (1 : Int32)) X_127.here hx (hb hby d3_92) rfl rfl ?_
            refine s_goto (pc' := 97) X_127.here hx (hb hby d3_93) (by decide) (by decide) ?_
            refine winN X_127 hx hlk e_127 (t := .boolean) Bd.returns (by simp) (hb hby d3_97) (by decide) (by decide) (z' := (1 : Int32)) rfl ?_
            have e0 := own_lo (v := v0) (by omega) (by omega)
            have e1 := own_lo (v := v1) (by omega) (by omega)
            have e2 := own_hi (v := v2) (by omega) (by omega)
            have mA : ((((bit0 v0) ||| (bit0 v1)) ||| (bit0 v2)) ||| (0 : Int64)) = mk0_1 := by rw [← hmk0_1, ← hmk0_0]; simp only [e0.1, e0.2, e1.1, e1.2, e2.1, e2.2, Int64.or_zero, Int64.zero_or]
            have mB : ((((bit1 v0) ||| (bit1 v1)) ||| (bit1 v2)) ||| (0 : Int64)) = mk1_2 := by rw [← hmk1_2]; simp only [e0.1, e0.2, e1.1, e1.2, e2.1, e2.2, Int64.or_zero, Int64.zero_or]
            have tt : (((0 : Int64) ||| (u0 &&& (((((bit0 v0) ||| (bit0 v1)) ||| (bit0 v2)) ||| (0 : Int64)) ^^^ (-1 : Int64)))) ||| (u1 &&& (((((bit1 v0) ||| (bit1 v1)) ||| (bit1 v2)) ||| (0 : Int64)) ^^^ (-1 : Int64)))) = t1 := by rw [mA, mB, ht0, ht1]
            refine ⟨Nf, Kp, by rw [mA, mB]; exact V_a, _, rfl, Or.inl ⟨rfl, ?_⟩⟩
            rw [tt]
            exact hc89_4
        · skip
          exfalso
          omega
    · skip
      refine s_icmpYes (pc' := 57) X0.here hx (hb hby d3_34) (feqI (x := (v1 / (64 : Int32))) (y := (0 : Int32)) hc34_1).2 (by decide) (by decide) ?_
      refine s_lloadN (pc' := 58) X0.here hx (hb hby d3_57) rfl rfl ?_
      refine s_aloadN (pc' := 59) X0.here hx (hb hby d3_58) rfl rfl rfl ?_
      refine s_iload (pc' := 61) X0.here hx (hb hby d3_59) rfl rfl ?_
      obtain ⟨cl_129, Ar_129, q_129, S_129, N_129, H_129, G_129⟩ := id V_a
      have hi_129 : ¬ ((0 : Int32) < 0 ∨ cl_129.slots.size ≤ ((0 : Int32)).toNatClampNeg) := inb_of S_129 ⟨by decide, by decide⟩
      refine Win.go (fun _ k => X0.laload hx (j := (0 : Int32)) (v := (.long u0)) (by rw [e0]; exact Ar_129.1) (State.isArrayOf_alike hZ.alike Ar_129.2.1) Ar_129.2.2 hi_129 (H_129.at hi_129 rfl) (g := (mkF m 61 #[.val (.ref a), .val (.ref b), .val (.long (0 : Int64)), .second, .val (.int (1 : Int32)), .val (.int (0 : Int32)), .val (.long mk0_0), .second] [(.int (0 : Int32)), (.ref a), (.long (0 : Int64))])) rfl rfl (hb hby d3_61) _ k) ?_
      show Win p.tables e below _ (s₁.setTop (mkF m 62 #[.val (.ref a), .val (.ref b), .val (.long (0 : Int64)), .second, .val (.int (1 : Int32)), .val (.int (0 : Int32)), .val (.long mk0_0), .second] [(.long u0), (.long (0 : Int64))]))
      clear Ar_129 q_129 S_129 N_129 H_129 G_129 hi_129
      refine s_lload (pc' := 64) X0.here hx (hb hby d3_62) rfl rfl ?_
      refine Win.go (fun _ k => X0.ldc2Long hx hown (mvT hZ (hw _ (List.mem_of_getElem? (i := 14) rfl))) (g := (mkF m 64 #[.val (.ref a), .val (.ref b), .val (.long (0 : Int64)), .second, .val (.int (1 : Int32)), .val (.int (0 : Int32)), .val (.long mk0_0), .second] [(.long mk0_0), (.long u0), (.long (0 : Int64))])) rfl (hb hby d3_64) _ k) ?_
      show Win p.tables e below _ (s₁.setTop (mkF m 67 #[.val (.ref a), .val (.ref b), .val (.long (0 : Int64)), .second, .val (.int (1 : Int32)), .val (.int (0 : Int32)), .val (.long mk0_0), .second] [(.long (-1 : Int64)), (.long mk0_0), (.long u0), (.long (0 : Int64))]))
      refine s_lxor (pc' := 68) X0.here hx (hb hby d3_67) rfl ?_
      refine s_land (pc' := 69) X0.here hx (hb hby d3_68) rfl ?_
      refine s_lor (pc' := 70) X0.here hx (hb hby d3_69) rfl ?_
      refine s_lstoreN (pc' := 71) (l' := #[.val (.ref a), .val (.ref b), .val (.long ((0 : Int64) ||| (u0 &&& (mk0_0 ^^^ (-1 : Int64))))), .second, .val (.int (1 : Int32)), .val (.int (0 : Int32)), .val (.long mk0_0), .second]) X0.here hx (hb hby d3_70) rfl rfl ?_
      generalize ht0 : ((0 : Int64) ||| (u0 &&& (mk0_0 ^^^ (-1 : Int64)))) = t0
      show Win p.tables e below _ (s₁.setTop (mkF m 71 #[.val (.ref a), .val (.ref b), .val (.long t0), .second, .val (.int (1 : Int32)), .val (.int (0 : Int32)), .val (.long mk0_0), .second] []))
      refine s_aloadN (pc' := 72) X0.here hx (hb hby d3_71) rfl rfl rfl ?_
      refine s_iload (pc' := 74) X0.here hx (hb hby d3_72) rfl rfl ?_
      refine Win.go (fun _ k => XT.dup2 X0.here hx rfl (hb hby d3_74) rfl rfl rfl k) ?_
      show Win p.tables e below _ (s₁.setTop (mkF m 75 #[.val (.ref a), .val (.ref b), .val (.long t0), .second, .val (.int (1 : Int32)), .val (.int (0 : Int32)), .val (.long mk0_0), .second] [(.int (0 : Int32)), (.ref a), (.int (0 : Int32)), (.ref a)]))
      obtain ⟨cl_130, Ar_130, q_130, S_130, N_130, H_130, G_130⟩ := id V_a
      have hi_130 : ¬ ((0 : Int32) < 0 ∨ cl_130.slots.size ≤ ((0 : Int32)).toNatClampNeg) := inb_of S_130 ⟨by decide, by decide⟩
      refine Win.go (fun _ k => X0.laload hx (j := (0 : Int32)) (v := (.long u0)) (by rw [e0]; exact Ar_130.1) (State.isArrayOf_alike hZ.alike Ar_130.2.1) Ar_130.2.2 hi_130 (H_130.at hi_130 rfl) (g := (mkF m 75 #[.val (.ref a), .val (.ref b), .val (.long t0), .second, .val (.int (1 : Int32)), .val (.int (0 : Int32)), .val (.long mk0_0), .second] [(.int (0 : Int32)), (.ref a), (.int (0 : Int32)), (.ref a)])) rfl rfl (hb hby d3_75) _ k) ?_
      show Win p.tables e below _ (s₁.setTop (mkF m 76 #[.val (.ref a), .val (.ref b), .val (.long t0), .second, .val (.int (1 : Int32)), .val (.int (0 : Int32)), .val (.long mk0_0), .second] [(.long u0), (.int (0 : Int32)), (.ref a)]))
      clear Ar_130 q_130 S_130 N_130 H_130 G_130 hi_130
      refine s_lload (pc' := 78) X0.here hx (hb hby d3_76) rfl rfl ?_
      refine s_land (pc' := 79) X0.here hx (hb hby d3_78) rfl ?_
      obtain ⟨cl_131, Ar_131, q_131, S_131, N_131, H_131, G_131⟩ := V_a
      obtain ⟨T_131, h_131, X_131, e_131, W_131, st_131⟩ := stJ X0 hx hZ e0 Ar_131 (j := (0 : Int32)) (inb_of S_131 ⟨by decide, by decide⟩) (g := (mkF m 79 #[.val (.ref a), .val (.ref b), .val (.long t0), .second, .val (.int (1 : Int32)), .val (.int (0 : Int32)), .val (.long mk0_0), .second] [(.long (u0 &&& mk0_0)), (.int (0 : Int32)), (.ref a)])) rfl rfl (hb hby d3_79)
      have V_131 := Arv.set Ar_131 q_131 S_131 N_131 H_131 G_131 rfl W_131 0 rfl (Nat.le_of_ble_eq_true rfl)
      replace V_b := V_b.other W_131 ne_b_a
      replace lt_a := Nat.lt_of_lt_of_le lt_a (Keep.of_wr W_131).1
      replace lt_b := Nat.lt_of_lt_of_le lt_b (Keep.of_wr W_131).1
      replace Zs := Nat.le_trans Zs (Keep.of_wr W_131).1
      replace Kp := Kp.wr W_131 (Or.inl (by simp))
      replace V_a : Arv Z h_131 a ka .long (2 : Int32) [(.long (u0 &&& mk0_0)), (.long u1)] (.long (0 : Int64)) := V_131
      replace Nf := Fr.snoc X_131 Nf g_a
      refine Win.go st_131 ?_
      clear st_131 W_131 V_131 Ar_131 q_131 S_131 N_131 H_131 G_131 X0 e0
      show Win p.tables e below _ (T_131.setTop (mkF m 80 #[.val (.ref a), .val (.ref b), .val (.long t0), .second, .val (.int (1 : Int32)), .val (.int (0 : Int32)), .val (.long mk0_0), .second] []))
      refine Win.go (fun _ k => XS.iinc X_131.here hx rfl (hb hby d3_80) rfl (l' := #[.val (.ref a), .val (.ref b), .val (.long t0), .second, .val (.int (1 : Int32)), .val (.int (1 : Int32)), .val (.long mk0_0), .second]) rfl k) ?_
      show Win p.tables e below _ (T_131.setTop (mkF m 83 #[.val (.ref a), .val (.ref b), .val (.long t0), .second, .val (.int (1 : Int32)), .val (.int (1 : Int32)), .val (.long mk0_0), .second] []))
      refine s_goto (pc' := 8) X_131.here hx (hb hby d3_83) (by decide) (by decide) ?_
      refine s_iload (pc' := 10) X_131.here hx (hb hby d3_8) rfl rfl ?_
      refine s_aloadN (pc' := 11) X_131.here hx (hb hby d3_10) rfl rfl rfl ?_
      obtain ⟨cl_132, Ar_132, q_132, S_132, N_132, H_132, G_132⟩ := id V_a
      refine Win.go (fun _ k => X_131.arraylength hx (by rw [e_131]; exact Ar_132.1) (State.isArrayOf_alike hZ.alike Ar_132.2.1) (g := (mkF m 11 #[.val (.ref a), .val (.ref b), .val (.long t0), .second, .val (.int (1 : Int32)), .val (.int (1 : Int32)), .val (.long mk0_0), .second] [(.ref a), (.int (1 : Int32))])) rfl rfl (hb hby d3_11) _ k) ?_
      rw [len_of S_132 N_132]
      clear Ar_132 q_132 S_132 N_132 H_132 G_132
      show Win p.tables e below _ (T_131.setTop (mkF m 12 #[.val (.ref a), .val (.ref b), .val (.long t0), .second, .val (.int (1 : Int32)), .val (.int (1 : Int32)), .val (.long mk0_0), .second] [(.int (2 : Int32)), (.int (1 : Int32))]))
      refine s_icmpNo (pc' := 15) X_131.here hx (hb hby d3_12) rfl (tltI (x := (1 : Int32)) (y := (2 : Int32)) (by decide)).2.1 ?_
      refine s_lconst (pc' := 16) (z := (0 : Int64)) X_131.here hx (hb hby d3_15) rfl rfl ?_
      refine s_lstore (pc' := 18) (l' := #[.val (.ref a), .val (.ref b), .val (.long t0), .second, .val (.int (1 : Int32)), .val (.int (1 : Int32)), .val (.long (0 : Int64)), .second]) X_131.here hx (hb hby d3_16) rfl rfl ?_
      refine s_iload (pc' := 20) X_131.here hx (hb hby d3_18) rfl rfl ?_
      refine s_aloadN (pc' := 21) X_131.here hx (hb hby d3_20) rfl rfl rfl ?_
      obtain ⟨cl_133, Ar_133, q_133, S_133, N_133, H_133, G_133⟩ := id V_b
      refine Win.go (fun _ k => X_131.arraylength hx (by rw [e_131]; exact Ar_133.1) (State.isArrayOf_alike hZ.alike Ar_133.2.1) (g := (mkF m 21 #[.val (.ref a), .val (.ref b), .val (.long t0), .second, .val (.int (1 : Int32)), .val (.int (1 : Int32)), .val (.long (0 : Int64)), .second] [(.ref b), (.int (1 : Int32))])) rfl rfl (hb hby d3_21) _ k) ?_
      rw [len_of S_133 N_133]
      clear Ar_133 q_133 S_133 N_133 H_133 G_133
      show Win p.tables e below _ (T_131.setTop (mkF m 22 #[.val (.ref a), .val (.ref b), .val (.long t0), .second, .val (.int (1 : Int32)), .val (.int (1 : Int32)), .val (.long (0 : Int64)), .second] [(.int (3 : Int32)), (.int (1 : Int32))]))
      refine s_icmpNo (pc' := 25) X_131.here hx (hb hby d3_22) rfl (tltI (x := (1 : Int32)) (y := (3 : Int32)) (by decide)).2.1 ?_
      refine s_aloadN (pc' := 26) X_131.here hx (hb hby d3_25) rfl rfl rfl ?_
      refine s_iload (pc' := 28) X_131.here hx (hb hby d3_26) rfl rfl ?_
      obtain ⟨cl_134, Ar_134, q_134, S_134, N_134, H_134, G_134⟩ := id V_b
      have hi_134 : ¬ ((1 : Int32) < 0 ∨ cl_134.slots.size ≤ ((1 : Int32)).toNatClampNeg) := inb_of S_134 ⟨by decide, by decide⟩
      refine Win.go (fun _ k => X_131.iaload hx (j := (1 : Int32)) (v := (.int v1)) (by rw [e_131]; exact Ar_134.1) (State.isArrayOf_alike hZ.alike Ar_134.2.1) Ar_134.2.2 hi_134 (H_134.at hi_134 rfl) (g := (mkF m 28 #[.val (.ref a), .val (.ref b), .val (.long t0), .second, .val (.int (1 : Int32)), .val (.int (1 : Int32)), .val (.long (0 : Int64)), .second] [(.int (1 : Int32)), (.ref b)])) rfl rfl (hb hby d3_28) _ k) ?_
      show Win p.tables e below _ (T_131.setTop (mkF m 29 #[.val (.ref a), .val (.ref b), .val (.long t0), .second, .val (.int (1 : Int32)), .val (.int (1 : Int32)), .val (.long (0 : Int64)), .second] [(.int v1)]))
      clear Ar_134 q_134 S_134 N_134 H_134 G_134 hi_134
      refine s_bipush (pc' := 31) (z := (64 : Int32)) X_131.here hx (hb hby d3_29) rfl rfl ?_
      refine Win.go (fun _ k => XS.idiv X_131.here hx rfl (hb hby d3_31) rfl (by decide) k) ?_
      show Win p.tables e below _ (T_131.setTop (mkF m 32 #[.val (.ref a), .val (.ref b), .val (.long t0), .second, .val (.int (1 : Int32)), .val (.int (1 : Int32)), .val (.long (0 : Int64)), .second] [(.int (v1 / (64 : Int32)))]))
      refine s_iload (pc' := 34) X_131.here hx (hb hby d3_32) rfl rfl ?_
      by_cases hc34_2 : ((v1 / (64 : Int32))).toInt = (1 : Int)
      · skip
        refine s_icmpNo (pc' := 37) X_131.here hx (hb hby d3_34) rfl (teqI (x := (v1 / (64 : Int32))) (y := (1 : Int32)) hc34_2).2 ?_
        refine s_lload (pc' := 39) X_131.here hx (hb hby d3_37) rfl rfl ?_
        refine s_lconst (pc' := 40) (z := (1 : Int64)) X_131.here hx (hb hby d3_39) rfl rfl ?_
        refine s_aloadN (pc' := 41) X_131.here hx (hb hby d3_40) rfl rfl rfl ?_
        refine s_iload (pc' := 43) X_131.here hx (hb hby d3_41) rfl rfl ?_
        obtain ⟨cl_135, Ar_135, q_135, S_135, N_135, H_135, G_135⟩ := id V_b
        have hi_135 : ¬ ((1 : Int32) < 0 ∨ cl_135.slots.size ≤ ((1 : Int32)).toNatClampNeg) := inb_of S_135 ⟨by decide, by decide⟩
        refine Win.go (fun _ k => X_131.iaload hx (j := (1 : Int32)) (v := (.int v1)) (by rw [e_131]; exact Ar_135.1) (State.isArrayOf_alike hZ.alike Ar_135.2.1) Ar_135.2.2 hi_135 (H_135.at hi_135 rfl) (g := (mkF m 43 #[.val (.ref a), .val (.ref b), .val (.long t0), .second, .val (.int (1 : Int32)), .val (.int (1 : Int32)), .val (.long (0 : Int64)), .second] [(.int (1 : Int32)), (.ref b), (.long (1 : Int64)), (.long (0 : Int64))])) rfl rfl (hb hby d3_43) _ k) ?_
        show Win p.tables e below _ (T_131.setTop (mkF m 44 #[.val (.ref a), .val (.ref b), .val (.long t0), .second, .val (.int (1 : Int32)), .val (.int (1 : Int32)), .val (.long (0 : Int64)), .second] [(.int v1), (.long (1 : Int64)), (.long (0 : Int64))]))
        clear Ar_135 q_135 S_135 N_135 H_135 G_135 hi_135
        refine s_bipush (pc' := 46) (z := (64 : Int32)) X_131.here hx (hb hby d3_44) rfl rfl ?_
        refine Win.go (fun _ k => iremM X_131 hx rfl (hb hby d3_46) rfl (by decide) k) ?_
        show Win p.tables e below _ (T_131.setTop (mkF m 47 #[.val (.ref a), .val (.ref b), .val (.long t0), .second, .val (.int (1 : Int32)), .val (.int (1 : Int32)), .val (.long (0 : Int64)), .second] [(.int (v1 % (64 : Int32))), (.long (1 : Int64)), (.long (0 : Int64))]))
        refine Win.go (fun _ k => XT.lshl X_131.here hx rfl (hb hby d3_47) rfl k) ?_
        show Win p.tables e below _ (T_131.setTop (mkF m 48 #[.val (.ref a), .val (.ref b), .val (.long t0), .second, .val (.int (1 : Int32)), .val (.int (1 : Int32)), .val (.long (0 : Int64)), .second] [(.long ((1 : Int64) <<< ((v1 % (64 : Int32)).toInt64 &&& 63))), (.long (0 : Int64))]))
        refine s_lor (pc' := 49) X_131.here hx (hb hby d3_48) rfl ?_
        refine s_lstore (pc' := 51) (l' := #[.val (.ref a), .val (.ref b), .val (.long t0), .second, .val (.int (1 : Int32)), .val (.int (1 : Int32)), .val (.long ((0 : Int64) ||| ((1 : Int64) <<< ((v1 % (64 : Int32)).toInt64 &&& 63)))), .second]) X_131.here hx (hb hby d3_49) rfl rfl ?_
        generalize hmk1_1 : ((0 : Int64) ||| ((1 : Int64) <<< ((v1 % (64 : Int32)).toInt64 &&& 63))) = mk1_1
        show Win p.tables e below _ (T_131.setTop (mkF m 51 #[.val (.ref a), .val (.ref b), .val (.long t0), .second, .val (.int (1 : Int32)), .val (.int (1 : Int32)), .val (.long mk1_1), .second] []))
        refine Win.go (fun _ k => XS.iinc X_131.here hx rfl (hb hby d3_51) rfl (l' := #[.val (.ref a), .val (.ref b), .val (.long t0), .second, .val (.int (2 : Int32)), .val (.int (1 : Int32)), .val (.long mk1_1), .second]) rfl k) ?_
        show Win p.tables e below _ (T_131.setTop (mkF m 54 #[.val (.ref a), .val (.ref b), .val (.long t0), .second, .val (.int (2 : Int32)), .val (.int (1 : Int32)), .val (.long mk1_1), .second] []))
        refine s_goto (pc' := 18) X_131.here hx (hb hby d3_54) (by decide) (by decide) ?_
        refine s_iload (pc' := 20) X_131.here hx (hb hby d3_18) rfl rfl ?_
        refine s_aloadN (pc' := 21) X_131.here hx (hb hby d3_20) rfl rfl rfl ?_
        obtain ⟨cl_136, Ar_136, q_136, S_136, N_136, H_136, G_136⟩ := id V_b
        refine Win.go (fun _ k => X_131.arraylength hx (by rw [e_131]; exact Ar_136.1) (State.isArrayOf_alike hZ.alike Ar_136.2.1) (g := (mkF m 21 #[.val (.ref a), .val (.ref b), .val (.long t0), .second, .val (.int (2 : Int32)), .val (.int (1 : Int32)), .val (.long mk1_1), .second] [(.ref b), (.int (2 : Int32))])) rfl rfl (hb hby d3_21) _ k) ?_
        rw [len_of S_136 N_136]
        clear Ar_136 q_136 S_136 N_136 H_136 G_136
        show Win p.tables e below _ (T_131.setTop (mkF m 22 #[.val (.ref a), .val (.ref b), .val (.long t0), .second, .val (.int (2 : Int32)), .val (.int (1 : Int32)), .val (.long mk1_1), .second] [(.int (3 : Int32)), (.int (2 : Int32))]))
        refine s_icmpNo (pc' := 25) X_131.here hx (hb hby d3_22) rfl (tltI (x := (2 : Int32)) (y := (3 : Int32)) (by decide)).2.1 ?_
        refine s_aloadN (pc' := 26) X_131.here hx (hb hby d3_25) rfl rfl rfl ?_
        refine s_iload (pc' := 28) X_131.here hx (hb hby d3_26) rfl rfl ?_
        obtain ⟨cl_137, Ar_137, q_137, S_137, N_137, H_137, G_137⟩ := id V_b
        have hi_137 : ¬ ((2 : Int32) < 0 ∨ cl_137.slots.size ≤ ((2 : Int32)).toNatClampNeg) := inb_of S_137 ⟨by decide, by decide⟩
        refine Win.go (fun _ k => X_131.iaload hx (j := (2 : Int32)) (v := (.int v2)) (by rw [e_131]; exact Ar_137.1) (State.isArrayOf_alike hZ.alike Ar_137.2.1) Ar_137.2.2 hi_137 (H_137.at hi_137 rfl) (g := (mkF m 28 #[.val (.ref a), .val (.ref b), .val (.long t0), .second, .val (.int (2 : Int32)), .val (.int (1 : Int32)), .val (.long mk1_1), .second] [(.int (2 : Int32)), (.ref b)])) rfl rfl (hb hby d3_28) _ k) ?_
        show Win p.tables e below _ (T_131.setTop (mkF m 29 #[.val (.ref a), .val (.ref b), .val (.long t0), .second, .val (.int (2 : Int32)), .val (.int (1 : Int32)), .val (.long mk1_1), .second] [(.int v2)]))
        clear Ar_137 q_137 S_137 N_137 H_137 G_137 hi_137
        refine s_bipush (pc' := 31) (z := (64 : Int32)) X_131.here hx (hb hby d3_29) rfl rfl ?_
        refine Win.go (fun _ k => XS.idiv X_131.here hx rfl (hb hby d3_31) rfl (by decide) k) ?_
        show Win p.tables e below _ (T_131.setTop (mkF m 32 #[.val (.ref a), .val (.ref b), .val (.long t0), .second, .val (.int (2 : Int32)), .val (.int (1 : Int32)), .val (.long mk1_1), .second] [(.int (v2 / (64 : Int32)))]))
        refine s_iload (pc' := 34) X_131.here hx (hb hby d3_32) rfl rfl ?_
        by_cases hc34_3 : ((v2 / (64 : Int32))).toInt = (1 : Int)
        · skip
          refine s_icmpNo (pc' := 37) X_131.here hx (hb hby d3_34) rfl (teqI (x := (v2 / (64 : Int32))) (y := (1 : Int32)) hc34_3).2 ?_
          refine s_lload (pc' := 39) X_131.here hx (hb hby d3_37) rfl rfl ?_
          refine s_lconst (pc' := 40) (z := (1 : Int64)) X_131.here hx (hb hby d3_39) rfl rfl ?_
          refine s_aloadN (pc' := 41) X_131.here hx (hb hby d3_40) rfl rfl rfl ?_
          refine s_iload (pc' := 43) X_131.here hx (hb hby d3_41) rfl rfl ?_
          obtain ⟨cl_138, Ar_138, q_138, S_138, N_138, H_138, G_138⟩ := id V_b
          have hi_138 : ¬ ((2 : Int32) < 0 ∨ cl_138.slots.size ≤ ((2 : Int32)).toNatClampNeg) := inb_of S_138 ⟨by decide, by decide⟩
          refine Win.go (fun _ k => X_131.iaload hx (j := (2 : Int32)) (v := (.int v2)) (by rw [e_131]; exact Ar_138.1) (State.isArrayOf_alike hZ.alike Ar_138.2.1) Ar_138.2.2 hi_138 (H_138.at hi_138 rfl) (g := (mkF m 43 #[.val (.ref a), .val (.ref b), .val (.long t0), .second, .val (.int (2 : Int32)), .val (.int (1 : Int32)), .val (.long mk1_1), .second] [(.int (2 : Int32)), (.ref b), (.long (1 : Int64)), (.long mk1_1)])) rfl rfl (hb hby d3_43) _ k) ?_
          show Win p.tables e below _ (T_131.setTop (mkF m 44 #[.val (.ref a), .val (.ref b), .val (.long t0), .second, .val (.int (2 : Int32)), .val (.int (1 : Int32)), .val (.long mk1_1), .second] [(.int v2), (.long (1 : Int64)), (.long mk1_1)]))
          clear Ar_138 q_138 S_138 N_138 H_138 G_138 hi_138
          refine s_bipush (pc' := 46) (z := (64 : Int32)) X_131.here hx (hb hby d3_44) rfl rfl ?_
          refine Win.go (fun _ k => iremM X_131 hx rfl (hb hby d3_46) rfl (by decide) k) ?_
          show Win p.tables e below _ (T_131.setTop (mkF m 47 #[.val (.ref a), .val (.ref b), .val (.long t0), .second, .val (.int (2 : Int32)), .val (.int (1 : Int32)), .val (.long mk1_1), .second] [(.int (v2 % (64 : Int32))), (.long (1 : Int64)), (.long mk1_1)]))
          refine Win.go (fun _ k => XT.lshl X_131.here hx rfl (hb hby d3_47) rfl k) ?_
          show Win p.tables e below _ (T_131.setTop (mkF m 48 #[.val (.ref a), .val (.ref b), .val (.long t0), .second, .val (.int (2 : Int32)), .val (.int (1 : Int32)), .val (.long mk1_1), .second] [(.long ((1 : Int64) <<< ((v2 % (64 : Int32)).toInt64 &&& 63))), (.long mk1_1)]))
          refine s_lor (pc' := 49) X_131.here hx (hb hby d3_48) rfl ?_
          refine s_lstore (pc' := 51) (l' := #[.val (.ref a), .val (.ref b), .val (.long t0), .second, .val (.int (2 : Int32)), .val (.int (1 : Int32)), .val (.long (mk1_1 ||| ((1 : Int64) <<< ((v2 % (64 : Int32)).toInt64 &&& 63)))), .second]) X_131.here hx (hb hby d3_49) rfl rfl ?_
          generalize hmk1_2 : (mk1_1 ||| ((1 : Int64) <<< ((v2 % (64 : Int32)).toInt64 &&& 63))) = mk1_2
          show Win p.tables e below _ (T_131.setTop (mkF m 51 #[.val (.ref a), .val (.ref b), .val (.long t0), .second, .val (.int (2 : Int32)), .val (.int (1 : Int32)), .val (.long mk1_2), .second] []))
          refine Win.go (fun _ k => XS.iinc X_131.here hx rfl (hb hby d3_51) rfl (l' := #[.val (.ref a), .val (.ref b), .val (.long t0), .second, .val (.int (3 : Int32)), .val (.int (1 : Int32)), .val (.long mk1_2), .second]) rfl k) ?_
          show Win p.tables e below _ (T_131.setTop (mkF m 54 #[.val (.ref a), .val (.ref b), .val (.long t0), .second, .val (.int (3 : Int32)), .val (.int (1 : Int32)), .val (.long mk1_2), .second] []))
          refine s_goto (pc' := 18) X_131.here hx (hb hby d3_54) (by decide) (by decide) ?_
          refine s_iload (pc' := 20) X_131.here hx (hb hby d3_18) rfl rfl ?_
          refine s_aloadN (pc' := 21) X_131.here hx (hb hby d3_20) rfl rfl rfl ?_
          obtain ⟨cl_139, Ar_139, q_139, S_139, N_139, H_139, G_139⟩ := id V_b
          refine Win.go (fun _ k => X_131.arraylength hx (by rw [e_131]; exact Ar_139.1) (State.isArrayOf_alike hZ.alike Ar_139.2.1) (g := (mkF m 21 #[.val (.ref a), .val (.ref b), .val (.long t0), .second, .val (.int (3 : Int32)), .val (.int (1 : Int32)), .val (.long mk1_2), .second] [(.ref b), (.int (3 : Int32))])) rfl rfl (hb hby d3_21) _ k) ?_
          rw [len_of S_139 N_139]
          clear Ar_139 q_139 S_139 N_139 H_139 G_139
          show Win p.tables e below _ (T_131.setTop (mkF m 22 #[.val (.ref a), .val (.ref b), .val (.long t0), .second, .val (.int (3 : Int32)), .val (.int (1 : Int32)), .val (.long mk1_2), .second] [(.int (3 : Int32)), (.int (3 : Int32))]))
          refine s_icmpYes (pc' := 57) X_131.here hx (hb hby d3_22) (fltI (x := (3 : Int32)) (y := (3 : Int32)) (by decide)).2.1 (by decide) (by decide) ?_
          refine s_lloadN (pc' := 58) X_131.here hx (hb hby d3_57) rfl rfl ?_
          refine s_aloadN (pc' := 59) X_131.here hx (hb hby d3_58) rfl rfl rfl ?_
          refine s_iload (pc' := 61) X_131.here hx (hb hby d3_59) rfl rfl ?_
          obtain ⟨cl_140, Ar_140, q_140, S_140, N_140, H_140, G_140⟩ := id V_a
          have hi_140 : ¬ ((1 : Int32) < 0 ∨ cl_140.slots.size ≤ ((1 : Int32)).toNatClampNeg) := inb_of S_140 ⟨by decide, by decide⟩
          refine Win.go (fun _ k => X_131.laload hx (j := (1 : Int32)) (v := (.long u1)) (by rw [e_131]; exact Ar_140.1) (State.isArrayOf_alike hZ.alike Ar_140.2.1) Ar_140.2.2 hi_140 (H_140.at hi_140 rfl) (g := (mkF m 61 #[.val (.ref a), .val (.ref b), .val (.long t0), .second, .val (.int (3 : Int32)), .val (.int (1 : Int32)), .val (.long mk1_2), .second] [(.int (1 : Int32)), (.ref a), (.long t0)])) rfl rfl (hb hby d3_61) _ k) ?_
          show Win p.tables e below _ (T_131.setTop (mkF m 62 #[.val (.ref a), .val (.ref b), .val (.long t0), .second, .val (.int (3 : Int32)), .val (.int (1 : Int32)), .val (.long mk1_2), .second] [(.long u1), (.long t0)]))
          clear Ar_140 q_140 S_140 N_140 H_140 G_140 hi_140
          refine s_lload (pc' := 64) X_131.here hx (hb hby d3_62) rfl rfl ?_
          refine Win.go (fun _ k => X_131.ldc2Long hx hown (mvT hZ (hw _ (List.mem_of_getElem? (i := 14) rfl))) (g := (mkF m 64 #[.val (.ref a), .val (.ref b), .val (.long t0), .second, .val (.int (3 : Int32)), .val (.int (1 : Int32)), .val (.long mk1_2), .second] [(.long mk1_2), (.long u1), (.long t0)])) rfl (hb hby d3_64) _ k) ?_
          show Win p.tables e below _ (T_131.setTop (mkF m 67 #[.val (.ref a), .val (.ref b), .val (.long t0), .second, .val (.int (3 : Int32)), .val (.int (1 : Int32)), .val (.long mk1_2), .second] [(.long (-1 : Int64)), (.long mk1_2), (.long u1), (.long t0)]))
          refine s_lxor (pc' := 68) X_131.here hx (hb hby d3_67) rfl ?_
          refine s_land (pc' := 69) X_131.here hx (hb hby d3_68) rfl ?_
          refine s_lor (pc' := 70) X_131.here hx (hb hby d3_69) rfl ?_
          refine s_lstoreN (pc' := 71) (l' := #[.val (.ref a), .val (.ref b), .val (.long (t0 ||| (u1 &&& (mk1_2 ^^^ (-1 : Int64))))), .second, .val (.int (3 : Int32)), .val (.int (1 : Int32)), .val (.long mk1_2), .second]) X_131.here hx (hb hby d3_70) rfl rfl ?_
          generalize ht1 : (t0 ||| (u1 &&& (mk1_2 ^^^ (-1 : Int64)))) = t1
          show Win p.tables e below _ (T_131.setTop (mkF m 71 #[.val (.ref a), .val (.ref b), .val (.long t1), .second, .val (.int (3 : Int32)), .val (.int (1 : Int32)), .val (.long mk1_2), .second] []))
          refine s_aloadN (pc' := 72) X_131.here hx (hb hby d3_71) rfl rfl rfl ?_
          refine s_iload (pc' := 74) X_131.here hx (hb hby d3_72) rfl rfl ?_
          refine Win.go (fun _ k => XT.dup2 X_131.here hx rfl (hb hby d3_74) rfl rfl rfl k) ?_
          show Win p.tables e below _ (T_131.setTop (mkF m 75 #[.val (.ref a), .val (.ref b), .val (.long t1), .second, .val (.int (3 : Int32)), .val (.int (1 : Int32)), .val (.long mk1_2), .second] [(.int (1 : Int32)), (.ref a), (.int (1 : Int32)), (.ref a)]))
          obtain ⟨cl_141, Ar_141, q_141, S_141, N_141, H_141, G_141⟩ := id V_a
          have hi_141 : ¬ ((1 : Int32) < 0 ∨ cl_141.slots.size ≤ ((1 : Int32)).toNatClampNeg) := inb_of S_141 ⟨by decide, by decide⟩
          refine Win.go (fun _ k => X_131.laload hx (j := (1 : Int32)) (v := (.long u1)) (by rw [e_131]; exact Ar_141.1) (State.isArrayOf_alike hZ.alike Ar_141.2.1) Ar_141.2.2 hi_141 (H_141.at hi_141 rfl) (g := (mkF m 75 #[.val (.ref a), .val (.ref b), .val (.long t1), .second, .val (.int (3 : Int32)), .val (.int (1 : Int32)), .val (.long mk1_2), .second] [(.int (1 : Int32)), (.ref a), (.int (1 : Int32)), (.ref a)])) rfl rfl (hb hby d3_75) _ k) ?_
          show Win p.tables e below _ (T_131.setTop (mkF m 76 #[.val (.ref a), .val (.ref b), .val (.long t1), .second, .val (.int (3 : Int32)), .val (.int (1 : Int32)), .val (.long mk1_2), .second] [(.long u1), (.int (1 : Int32)), (.ref a)]))
          clear Ar_141 q_141 S_141 N_141 H_141 G_141 hi_141
          refine s_lload (pc' := 78) X_131.here hx (hb hby d3_76) rfl rfl ?_
          refine s_land (pc' := 79) X_131.here hx (hb hby d3_78) rfl ?_
          obtain ⟨cl_142, Ar_142, q_142, S_142, N_142, H_142, G_142⟩ := V_a
          obtain ⟨T_142, h_142, X_142, e_142, W_142, st_142⟩ := stJ X_131 hx hZ e_131 Ar_142 (j := (1 : Int32)) (inb_of S_142 ⟨by decide, by decide⟩) (g := (mkF m 79 #[.val (.ref a), .val (.ref b), .val (.long t1), .second, .val (.int (3 : Int32)), .val (.int (1 : Int32)), .val (.long mk1_2), .second] [(.long (u1 &&& mk1_2)), (.int (1 : Int32)), (.ref a)])) rfl rfl (hb hby d3_79)
          have V_142 := Arv.set Ar_142 q_142 S_142 N_142 H_142 G_142 rfl W_142 1 rfl (Nat.le_of_ble_eq_true rfl)
          replace V_b := V_b.other W_142 ne_b_a
          replace lt_a := Nat.lt_of_lt_of_le lt_a (Keep.of_wr W_142).1
          replace lt_b := Nat.lt_of_lt_of_le lt_b (Keep.of_wr W_142).1
          replace Zs := Nat.le_trans Zs (Keep.of_wr W_142).1
          replace Kp := Kp.wr W_142 (Or.inl (by simp))
          replace V_a : Arv Z h_142 a ka .long (2 : Int32) [(.long (u0 &&& mk0_0)), (.long (u1 &&& mk1_2))] (.long (0 : Int64)) := V_142
          replace Nf := Fr.snoc X_142 Nf g_a
          refine Win.go st_142 ?_
          clear st_142 W_142 V_142 Ar_142 q_142 S_142 N_142 H_142 G_142 X_131 e_131
          show Win p.tables e below _ (T_142.setTop (mkF m 80 #[.val (.ref a), .val (.ref b), .val (.long t1), .second, .val (.int (3 : Int32)), .val (.int (1 : Int32)), .val (.long mk1_2), .second] []))
          refine Win.go (fun _ k => XS.iinc X_142.here hx rfl (hb hby d3_80) rfl (l' := #[.val (.ref a), .val (.ref b), .val (.long t1), .second, .val (.int (3 : Int32)), .val (.int (2 : Int32)), .val (.long mk1_2), .second]) rfl k) ?_
          show Win p.tables e below _ (T_142.setTop (mkF m 83 #[.val (.ref a), .val (.ref b), .val (.long t1), .second, .val (.int (3 : Int32)), .val (.int (2 : Int32)), .val (.long mk1_2), .second] []))
          refine s_goto (pc' := 8) X_142.here hx (hb hby d3_83) (by decide) (by decide) ?_
          refine s_iload (pc' := 10) X_142.here hx (hb hby d3_8) rfl rfl ?_
          refine s_aloadN (pc' := 11) X_142.here hx (hb hby d3_10) rfl rfl rfl ?_
          obtain ⟨cl_143, Ar_143, q_143, S_143, N_143, H_143, G_143⟩ := id V_a
          refine Win.go (fun _ k => X_142.arraylength hx (by rw [e_142]; exact Ar_143.1) (State.isArrayOf_alike hZ.alike Ar_143.2.1) (g := (mkF m 11 #[.val (.ref a), .val (.ref b), .val (.long t1), .second, .val (.int (3 : Int32)), .val (.int (2 : Int32)), .val (.long mk1_2), .second] [(.ref a), (.int (2 : Int32))])) rfl rfl (hb hby d3_11) _ k) ?_
          rw [len_of S_143 N_143]
          clear Ar_143 q_143 S_143 N_143 H_143 G_143
          show Win p.tables e below _ (T_142.setTop (mkF m 12 #[.val (.ref a), .val (.ref b), .val (.long t1), .second, .val (.int (3 : Int32)), .val (.int (2 : Int32)), .val (.long mk1_2), .second] [(.int (2 : Int32)), (.int (2 : Int32))]))
          refine s_icmpYes (pc' := 86) X_142.here hx (hb hby d3_12) (fltI (x := (2 : Int32)) (y := (2 : Int32)) (by decide)).2.1 (by decide) (by decide) ?_
          refine s_lloadN (pc' := 87) X_142.here hx (hb hby d3_86) rfl rfl ?_
          refine s_lconst (pc' := 88) (z := (0 : Int64)) X_142.here hx (hb hby d3_87) rfl rfl ?_
          refine s_lcmp (pc' := 89) X_142.here hx (hb hby d3_88) rfl ?_
          by_cases hc89_4 : (t1).toInt = (0 : Int)
          · skip
            refine s_ifYes (pc' := 96) X_142.here hx (hb hby d3_89) (teqL (x := t1) (y := (0 : Int64)) hc89_4).1 (by decide) (by decide) ?_
            refine s_iconst (pc' := 97) (z := (0 : Int32)) X_142.here hx (hb hby d3_96) rfl rfl ?_
            refine winN X_142 hx hlk e_142 (t := .boolean) Bd.returns (by simp) (hb hby d3_97) (by decide) (by decide) (z' := (0 : Int32)) rfl ?_
            have e0 := own_lo (v := v0) (by omega) (by omega)
            have e1 := own_hi (v := v1) (by omega) (by omega)
            have e2 := own_hi (v := v2) (by omega) (by omega)
            have mA : ((((bit0 v0) ||| (bit0 v1)) ||| (bit0 v2)) ||| (0 : Int64)) = mk0_0 := by rw [← hmk0_0]; simp only [e0.1, e0.2, e1.1, e1.2, e2.1, e2.2, Int64.or_zero, Int64.zero_or]
            have mB : ((((bit1 v0) ||| (bit1 v1)) ||| (bit1 v2)) ||| (0 : Int64)) = mk1_2 := by rw [← hmk1_2, ← hmk1_1]; simp only [e0.1, e0.2, e1.1, e1.2, e2.1, e2.2, Int64.or_zero, Int64.zero_or]
            have tt : (((0 : Int64) ||| (u0 &&& (((((bit0 v0) ||| (bit0 v1)) ||| (bit0 v2)) ||| (0 : Int64)) ^^^ (-1 : Int64)))) ||| (u1 &&& (((((bit1 v0) ||| (bit1 v1)) ||| (bit1 v2)) ||| (0 : Int64)) ^^^ (-1 : Int64)))) = t1 := by rw [mA, mB, ht0, ht1]
            refine ⟨Nf, Kp, by rw [mA, mB]; exact V_a, _, rfl, Or.inr ⟨rfl, ?_⟩⟩
            rw [tt]
            exact fun q => q hc89_4
          · skip
            refine s_ifNo (pc' := 92) X_142.here hx (hb hby d3_89) rfl (feqL (x := t1) (y := (0 : Int64)) hc89_4).1 ?_
            refine s_iconst (pc' := 93) (z := (1 : Int32)) X_142.here hx (hb hby d3_92) rfl rfl ?_
            refine s_goto (pc' := 97) X_142.here hx (hb hby d3_93) (by decide) (by decide) ?_
            refine winN X_142 hx hlk e_142 (t := .boolean) Bd.returns (by simp) (hb hby d3_97) (by decide) (by decide) (z' := (1 : Int32)) rfl ?_
            have e0 := own_lo (v := v0) (by omega) (by omega)
            have e1 := own_hi (v := v1) (by omega) (by omega)
            have e2 := own_hi (v := v2) (by omega) (by omega)
            have mA : ((((bit0 v0) ||| (bit0 v1)) ||| (bit0 v2)) ||| (0 : Int64)) = mk0_0 := by rw [← hmk0_0]; simp only [e0.1, e0.2, e1.1, e1.2, e2.1, e2.2, Int64.or_zero, Int64.zero_or]
            have mB : ((((bit1 v0) ||| (bit1 v1)) ||| (bit1 v2)) ||| (0 : Int64)) = mk1_2 := by rw [← hmk1_2, ← hmk1_1]; simp only [e0.1, e0.2, e1.1, e1.2, e2.1, e2.2, Int64.or_zero, Int64.zero_or]
            have tt : (((0 : Int64) ||| (u0 &&& (((((bit0 v0) ||| (bit0 v1)) ||| (bit0 v2)) ||| (0 : Int64)) ^^^ (-1 : Int64)))) ||| (u1 &&& (((((bit1 v0) ||| (bit1 v1)) ||| (bit1 v2)) ||| (0 : Int64)) ^^^ (-1 : Int64)))) = t1 := by rw [mA, mB, ht0, ht1]
            refine ⟨Nf, Kp, by rw [mA, mB]; exact V_a, _, rfl, Or.inl ⟨rfl, ?_⟩⟩
            rw [tt]
            exact hc89_4
        · skip
          exfalso
          omega
      · skip
        exfalso
        omega
  · skip
    refine s_icmpYes (pc' := 57) X0.here hx (hb hby d3_34) (feqI (x := (v0 / (64 : Int32))) (y := (0 : Int32)) hc34_0).2 (by decide) (by decide) ?_
    refine s_lloadN (pc' := 58) X0.here hx (hb hby d3_57) rfl rfl ?_
    refine s_aloadN (pc' := 59) X0.here hx (hb hby d3_58) rfl rfl rfl ?_
    refine s_iload (pc' := 61) X0.here hx (hb hby d3_59) rfl rfl ?_
    obtain ⟨cl_144, Ar_144, q_144, S_144, N_144, H_144, G_144⟩ := id V_a
    have hi_144 : ¬ ((0 : Int32) < 0 ∨ cl_144.slots.size ≤ ((0 : Int32)).toNatClampNeg) := inb_of S_144 ⟨by decide, by decide⟩
    refine Win.go (fun _ k => X0.laload hx (j := (0 : Int32)) (v := (.long u0)) (by rw [e0]; exact Ar_144.1) (State.isArrayOf_alike hZ.alike Ar_144.2.1) Ar_144.2.2 hi_144 (H_144.at hi_144 rfl) (g := (mkF m 61 #[.val (.ref a), .val (.ref b), .val (.long (0 : Int64)), .second, .val (.int (0 : Int32)), .val (.int (0 : Int32)), .val (.long (0 : Int64)), .second] [(.int (0 : Int32)), (.ref a), (.long (0 : Int64))])) rfl rfl (hb hby d3_61) _ k) ?_
    show Win p.tables e below _ (s₁.setTop (mkF m 62 #[.val (.ref a), .val (.ref b), .val (.long (0 : Int64)), .second, .val (.int (0 : Int32)), .val (.int (0 : Int32)), .val (.long (0 : Int64)), .second] [(.long u0), (.long (0 : Int64))]))
    clear Ar_144 q_144 S_144 N_144 H_144 G_144 hi_144
    refine s_lload (pc' := 64) X0.here hx (hb hby d3_62) rfl rfl ?_
    refine Win.go (fun _ k => X0.ldc2Long hx hown (mvT hZ (hw _ (List.mem_of_getElem? (i := 14) rfl))) (g := (mkF m 64 #[.val (.ref a), .val (.ref b), .val (.long (0 : Int64)), .second, .val (.int (0 : Int32)), .val (.int (0 : Int32)), .val (.long (0 : Int64)), .second] [(.long (0 : Int64)), (.long u0), (.long (0 : Int64))])) rfl (hb hby d3_64) _ k) ?_
    show Win p.tables e below _ (s₁.setTop (mkF m 67 #[.val (.ref a), .val (.ref b), .val (.long (0 : Int64)), .second, .val (.int (0 : Int32)), .val (.int (0 : Int32)), .val (.long (0 : Int64)), .second] [(.long (-1 : Int64)), (.long (0 : Int64)), (.long u0), (.long (0 : Int64))]))
    refine Win.go (fun _ k => XS.lxor X0.here hx rfl (hb hby d3_67) rfl k) ?_
    show Win p.tables e below _ (s₁.setTop (mkF m 68 #[.val (.ref a), .val (.ref b), .val (.long (0 : Int64)), .second, .val (.int (0 : Int32)), .val (.int (0 : Int32)), .val (.long (0 : Int64)), .second] [(.long (-1 : Int64)), (.long u0), (.long (0 : Int64))]))
    refine s_land (pc' := 69) X0.here hx (hb hby d3_68) rfl ?_
    refine s_lor (pc' := 70) X0.here hx (hb hby d3_69) rfl ?_
    refine s_lstoreN (pc' := 71) (l' := #[.val (.ref a), .val (.ref b), .val (.long ((0 : Int64) ||| (u0 &&& (-1 : Int64)))), .second, .val (.int (0 : Int32)), .val (.int (0 : Int32)), .val (.long (0 : Int64)), .second]) X0.here hx (hb hby d3_70) rfl rfl ?_
    generalize ht0 : ((0 : Int64) ||| (u0 &&& (-1 : Int64))) = t0
    show Win p.tables e below _ (s₁.setTop (mkF m 71 #[.val (.ref a), .val (.ref b), .val (.long t0), .second, .val (.int (0 : Int32)), .val (.int (0 : Int32)), .val (.long (0 : Int64)), .second] []))
    refine s_aloadN (pc' := 72) X0.here hx (hb hby d3_71) rfl rfl rfl ?_
    refine s_iload (pc' := 74) X0.here hx (hb hby d3_72) rfl rfl ?_
    refine Win.go (fun _ k => XT.dup2 X0.here hx rfl (hb hby d3_74) rfl rfl rfl k) ?_
    show Win p.tables e below _ (s₁.setTop (mkF m 75 #[.val (.ref a), .val (.ref b), .val (.long t0), .second, .val (.int (0 : Int32)), .val (.int (0 : Int32)), .val (.long (0 : Int64)), .second] [(.int (0 : Int32)), (.ref a), (.int (0 : Int32)), (.ref a)]))
    obtain ⟨cl_145, Ar_145, q_145, S_145, N_145, H_145, G_145⟩ := id V_a
    have hi_145 : ¬ ((0 : Int32) < 0 ∨ cl_145.slots.size ≤ ((0 : Int32)).toNatClampNeg) := inb_of S_145 ⟨by decide, by decide⟩
    refine Win.go (fun _ k => X0.laload hx (j := (0 : Int32)) (v := (.long u0)) (by rw [e0]; exact Ar_145.1) (State.isArrayOf_alike hZ.alike Ar_145.2.1) Ar_145.2.2 hi_145 (H_145.at hi_145 rfl) (g := (mkF m 75 #[.val (.ref a), .val (.ref b), .val (.long t0), .second, .val (.int (0 : Int32)), .val (.int (0 : Int32)), .val (.long (0 : Int64)), .second] [(.int (0 : Int32)), (.ref a), (.int (0 : Int32)), (.ref a)])) rfl rfl (hb hby d3_75) _ k) ?_
    show Win p.tables e below _ (s₁.setTop (mkF m 76 #[.val (.ref a), .val (.ref b), .val (.long t0), .second, .val (.int (0 : Int32)), .val (.int (0 : Int32)), .val (.long (0 : Int64)), .second] [(.long u0), (.int (0 : Int32)), (.ref a)]))
    clear Ar_145 q_145 S_145 N_145 H_145 G_145 hi_145
    refine s_lload (pc' := 78) X0.here hx (hb hby d3_76) rfl rfl ?_
    refine s_land (pc' := 79) X0.here hx (hb hby d3_78) rfl ?_
    obtain ⟨cl_146, Ar_146, q_146, S_146, N_146, H_146, G_146⟩ := V_a
    obtain ⟨T_146, h_146, X_146, e_146, W_146, st_146⟩ := stJ X0 hx hZ e0 Ar_146 (j := (0 : Int32)) (inb_of S_146 ⟨by decide, by decide⟩) (g := (mkF m 79 #[.val (.ref a), .val (.ref b), .val (.long t0), .second, .val (.int (0 : Int32)), .val (.int (0 : Int32)), .val (.long (0 : Int64)), .second] [(.long (u0 &&& (0 : Int64))), (.int (0 : Int32)), (.ref a)])) rfl rfl (hb hby d3_79)
    have V_146 := Arv.set Ar_146 q_146 S_146 N_146 H_146 G_146 rfl W_146 0 rfl (Nat.le_of_ble_eq_true rfl)
    replace V_b := V_b.other W_146 ne_b_a
    replace lt_a := Nat.lt_of_lt_of_le lt_a (Keep.of_wr W_146).1
    replace lt_b := Nat.lt_of_lt_of_le lt_b (Keep.of_wr W_146).1
    replace Zs := Nat.le_trans Zs (Keep.of_wr W_146).1
    replace Kp := Kp.wr W_146 (Or.inl (by simp))
    replace V_a : Arv Z h_146 a ka .long (2 : Int32) [(.long (u0 &&& (0 : Int64))), (.long u1)] (.long (0 : Int64)) := V_146
    replace Nf := Fr.snoc X_146 Nf g_a
    refine Win.go st_146 ?_
    clear st_146 W_146 V_146 Ar_146 q_146 S_146 N_146 H_146 G_146 X0 e0
    show Win p.tables e below _ (T_146.setTop (mkF m 80 #[.val (.ref a), .val (.ref b), .val (.long t0), .second, .val (.int (0 : Int32)), .val (.int (0 : Int32)), .val (.long (0 : Int64)), .second] []))
    refine Win.go (fun _ k => XS.iinc X_146.here hx rfl (hb hby d3_80) rfl (l' := #[.val (.ref a), .val (.ref b), .val (.long t0), .second, .val (.int (0 : Int32)), .val (.int (1 : Int32)), .val (.long (0 : Int64)), .second]) rfl k) ?_
    show Win p.tables e below _ (T_146.setTop (mkF m 83 #[.val (.ref a), .val (.ref b), .val (.long t0), .second, .val (.int (0 : Int32)), .val (.int (1 : Int32)), .val (.long (0 : Int64)), .second] []))
    refine s_goto (pc' := 8) X_146.here hx (hb hby d3_83) (by decide) (by decide) ?_
    refine s_iload (pc' := 10) X_146.here hx (hb hby d3_8) rfl rfl ?_
    refine s_aloadN (pc' := 11) X_146.here hx (hb hby d3_10) rfl rfl rfl ?_
    obtain ⟨cl_147, Ar_147, q_147, S_147, N_147, H_147, G_147⟩ := id V_a
    refine Win.go (fun _ k => X_146.arraylength hx (by rw [e_146]; exact Ar_147.1) (State.isArrayOf_alike hZ.alike Ar_147.2.1) (g := (mkF m 11 #[.val (.ref a), .val (.ref b), .val (.long t0), .second, .val (.int (0 : Int32)), .val (.int (1 : Int32)), .val (.long (0 : Int64)), .second] [(.ref a), (.int (1 : Int32))])) rfl rfl (hb hby d3_11) _ k) ?_
    rw [len_of S_147 N_147]
    clear Ar_147 q_147 S_147 N_147 H_147 G_147
    show Win p.tables e below _ (T_146.setTop (mkF m 12 #[.val (.ref a), .val (.ref b), .val (.long t0), .second, .val (.int (0 : Int32)), .val (.int (1 : Int32)), .val (.long (0 : Int64)), .second] [(.int (2 : Int32)), (.int (1 : Int32))]))
    refine s_icmpNo (pc' := 15) X_146.here hx (hb hby d3_12) rfl (tltI (x := (1 : Int32)) (y := (2 : Int32)) (by decide)).2.1 ?_
    refine s_lconst (pc' := 16) (z := (0 : Int64)) X_146.here hx (hb hby d3_15) rfl rfl ?_
    refine s_lstore (pc' := 18) (l' := #[.val (.ref a), .val (.ref b), .val (.long t0), .second, .val (.int (0 : Int32)), .val (.int (1 : Int32)), .val (.long (0 : Int64)), .second]) X_146.here hx (hb hby d3_16) rfl rfl ?_
    refine s_iload (pc' := 20) X_146.here hx (hb hby d3_18) rfl rfl ?_
    refine s_aloadN (pc' := 21) X_146.here hx (hb hby d3_20) rfl rfl rfl ?_
    obtain ⟨cl_148, Ar_148, q_148, S_148, N_148, H_148, G_148⟩ := id V_b
    refine Win.go (fun _ k => X_146.arraylength hx (by rw [e_146]; exact Ar_148.1) (State.isArrayOf_alike hZ.alike Ar_148.2.1) (g := (mkF m 21 #[.val (.ref a), .val (.ref b), .val (.long t0), .second, .val (.int (0 : Int32)), .val (.int (1 : Int32)), .val (.long (0 : Int64)), .second] [(.ref b), (.int (0 : Int32))])) rfl rfl (hb hby d3_21) _ k) ?_
    rw [len_of S_148 N_148]
    clear Ar_148 q_148 S_148 N_148 H_148 G_148
    show Win p.tables e below _ (T_146.setTop (mkF m 22 #[.val (.ref a), .val (.ref b), .val (.long t0), .second, .val (.int (0 : Int32)), .val (.int (1 : Int32)), .val (.long (0 : Int64)), .second] [(.int (3 : Int32)), (.int (0 : Int32))]))
    refine s_icmpNo (pc' := 25) X_146.here hx (hb hby d3_22) rfl (tltI (x := (0 : Int32)) (y := (3 : Int32)) (by decide)).2.1 ?_
    refine s_aloadN (pc' := 26) X_146.here hx (hb hby d3_25) rfl rfl rfl ?_
    refine s_iload (pc' := 28) X_146.here hx (hb hby d3_26) rfl rfl ?_
    obtain ⟨cl_149, Ar_149, q_149, S_149, N_149, H_149, G_149⟩ := id V_b
    have hi_149 : ¬ ((0 : Int32) < 0 ∨ cl_149.slots.size ≤ ((0 : Int32)).toNatClampNeg) := inb_of S_149 ⟨by decide, by decide⟩
    refine Win.go (fun _ k => X_146.iaload hx (j := (0 : Int32)) (v := (.int v0)) (by rw [e_146]; exact Ar_149.1) (State.isArrayOf_alike hZ.alike Ar_149.2.1) Ar_149.2.2 hi_149 (H_149.at hi_149 rfl) (g := (mkF m 28 #[.val (.ref a), .val (.ref b), .val (.long t0), .second, .val (.int (0 : Int32)), .val (.int (1 : Int32)), .val (.long (0 : Int64)), .second] [(.int (0 : Int32)), (.ref b)])) rfl rfl (hb hby d3_28) _ k) ?_
    show Win p.tables e below _ (T_146.setTop (mkF m 29 #[.val (.ref a), .val (.ref b), .val (.long t0), .second, .val (.int (0 : Int32)), .val (.int (1 : Int32)), .val (.long (0 : Int64)), .second] [(.int v0)]))
    clear Ar_149 q_149 S_149 N_149 H_149 G_149 hi_149
    refine s_bipush (pc' := 31) (z := (64 : Int32)) X_146.here hx (hb hby d3_29) rfl rfl ?_
    refine Win.go (fun _ k => XS.idiv X_146.here hx rfl (hb hby d3_31) rfl (by decide) k) ?_
    show Win p.tables e below _ (T_146.setTop (mkF m 32 #[.val (.ref a), .val (.ref b), .val (.long t0), .second, .val (.int (0 : Int32)), .val (.int (1 : Int32)), .val (.long (0 : Int64)), .second] [(.int (v0 / (64 : Int32)))]))
    refine s_iload (pc' := 34) X_146.here hx (hb hby d3_32) rfl rfl ?_
    by_cases hc34_1 : ((v0 / (64 : Int32))).toInt = (1 : Int)
    · skip
      refine s_icmpNo (pc' := 37) X_146.here hx (hb hby d3_34) rfl (teqI (x := (v0 / (64 : Int32))) (y := (1 : Int32)) hc34_1).2 ?_
      refine s_lload (pc' := 39) X_146.here hx (hb hby d3_37) rfl rfl ?_
      refine s_lconst (pc' := 40) (z := (1 : Int64)) X_146.here hx (hb hby d3_39) rfl rfl ?_
      refine s_aloadN (pc' := 41) X_146.here hx (hb hby d3_40) rfl rfl rfl ?_
      refine s_iload (pc' := 43) X_146.here hx (hb hby d3_41) rfl rfl ?_
      obtain ⟨cl_150, Ar_150, q_150, S_150, N_150, H_150, G_150⟩ := id V_b
      have hi_150 : ¬ ((0 : Int32) < 0 ∨ cl_150.slots.size ≤ ((0 : Int32)).toNatClampNeg) := inb_of S_150 ⟨by decide, by decide⟩
      refine Win.go (fun _ k => X_146.iaload hx (j := (0 : Int32)) (v := (.int v0)) (by rw [e_146]; exact Ar_150.1) (State.isArrayOf_alike hZ.alike Ar_150.2.1) Ar_150.2.2 hi_150 (H_150.at hi_150 rfl) (g := (mkF m 43 #[.val (.ref a), .val (.ref b), .val (.long t0), .second, .val (.int (0 : Int32)), .val (.int (1 : Int32)), .val (.long (0 : Int64)), .second] [(.int (0 : Int32)), (.ref b), (.long (1 : Int64)), (.long (0 : Int64))])) rfl rfl (hb hby d3_43) _ k) ?_
      show Win p.tables e below _ (T_146.setTop (mkF m 44 #[.val (.ref a), .val (.ref b), .val (.long t0), .second, .val (.int (0 : Int32)), .val (.int (1 : Int32)), .val (.long (0 : Int64)), .second] [(.int v0), (.long (1 : Int64)), (.long (0 : Int64))]))
      clear Ar_150 q_150 S_150 N_150 H_150 G_150 hi_150
      refine s_bipush (pc' := 46) (z := (64 : Int32)) X_146.here hx (hb hby d3_44) rfl rfl ?_
      refine Win.go (fun _ k => iremM X_146 hx rfl (hb hby d3_46) rfl (by decide) k) ?_
      show Win p.tables e below _ (T_146.setTop (mkF m 47 #[.val (.ref a), .val (.ref b), .val (.long t0), .second, .val (.int (0 : Int32)), .val (.int (1 : Int32)), .val (.long (0 : Int64)), .second] [(.int (v0 % (64 : Int32))), (.long (1 : Int64)), (.long (0 : Int64))]))
      refine Win.go (fun _ k => XT.lshl X_146.here hx rfl (hb hby d3_47) rfl k) ?_
      show Win p.tables e below _ (T_146.setTop (mkF m 48 #[.val (.ref a), .val (.ref b), .val (.long t0), .second, .val (.int (0 : Int32)), .val (.int (1 : Int32)), .val (.long (0 : Int64)), .second] [(.long ((1 : Int64) <<< ((v0 % (64 : Int32)).toInt64 &&& 63))), (.long (0 : Int64))]))
      refine s_lor (pc' := 49) X_146.here hx (hb hby d3_48) rfl ?_
      refine s_lstore (pc' := 51) (l' := #[.val (.ref a), .val (.ref b), .val (.long t0), .second, .val (.int (0 : Int32)), .val (.int (1 : Int32)), .val (.long ((0 : Int64) ||| ((1 : Int64) <<< ((v0 % (64 : Int32)).toInt64 &&& 63)))), .second]) X_146.here hx (hb hby d3_49) rfl rfl ?_
      generalize hmk1_0 : ((0 : Int64) ||| ((1 : Int64) <<< ((v0 % (64 : Int32)).toInt64 &&& 63))) = mk1_0
      show Win p.tables e below _ (T_146.setTop (mkF m 51 #[.val (.ref a), .val (.ref b), .val (.long t0), .second, .val (.int (0 : Int32)), .val (.int (1 : Int32)), .val (.long mk1_0), .second] []))
      refine Win.go (fun _ k => XS.iinc X_146.here hx rfl (hb hby d3_51) rfl (l' := #[.val (.ref a), .val (.ref b), .val (.long t0), .second, .val (.int (1 : Int32)), .val (.int (1 : Int32)), .val (.long mk1_0), .second]) rfl k) ?_
      show Win p.tables e below _ (T_146.setTop (mkF m 54 #[.val (.ref a), .val (.ref b), .val (.long t0), .second, .val (.int (1 : Int32)), .val (.int (1 : Int32)), .val (.long mk1_0), .second] []))
      refine s_goto (pc' := 18) X_146.here hx (hb hby d3_54) (by decide) (by decide) ?_
      refine s_iload (pc' := 20) X_146.here hx (hb hby d3_18) rfl rfl ?_
      refine s_aloadN (pc' := 21) X_146.here hx (hb hby d3_20) rfl rfl rfl ?_
      obtain ⟨cl_151, Ar_151, q_151, S_151, N_151, H_151, G_151⟩ := id V_b
      refine Win.go (fun _ k => X_146.arraylength hx (by rw [e_146]; exact Ar_151.1) (State.isArrayOf_alike hZ.alike Ar_151.2.1) (g := (mkF m 21 #[.val (.ref a), .val (.ref b), .val (.long t0), .second, .val (.int (1 : Int32)), .val (.int (1 : Int32)), .val (.long mk1_0), .second] [(.ref b), (.int (1 : Int32))])) rfl rfl (hb hby d3_21) _ k) ?_
      rw [len_of S_151 N_151]
      clear Ar_151 q_151 S_151 N_151 H_151 G_151
      show Win p.tables e below _ (T_146.setTop (mkF m 22 #[.val (.ref a), .val (.ref b), .val (.long t0), .second, .val (.int (1 : Int32)), .val (.int (1 : Int32)), .val (.long mk1_0), .second] [(.int (3 : Int32)), (.int (1 : Int32))]))
      refine s_icmpNo (pc' := 25) X_146.here hx (hb hby d3_22) rfl (tltI (x := (1 : Int32)) (y := (3 : Int32)) (by decide)).2.1 ?_
      refine s_aloadN (pc' := 26) X_146.here hx (hb hby d3_25) rfl rfl rfl ?_
      refine s_iload (pc' := 28) X_146.here hx (hb hby d3_26) rfl rfl ?_
      obtain ⟨cl_152, Ar_152, q_152, S_152, N_152, H_152, G_152⟩ := id V_b
      have hi_152 : ¬ ((1 : Int32) < 0 ∨ cl_152.slots.size ≤ ((1 : Int32)).toNatClampNeg) := inb_of S_152 ⟨by decide, by decide⟩
      refine Win.go (fun _ k => X_146.iaload hx (j := (1 : Int32)) (v := (.int v1)) (by rw [e_146]; exact Ar_152.1) (State.isArrayOf_alike hZ.alike Ar_152.2.1) Ar_152.2.2 hi_152 (H_152.at hi_152 rfl) (g := (mkF m 28 #[.val (.ref a), .val (.ref b), .val (.long t0), .second, .val (.int (1 : Int32)), .val (.int (1 : Int32)), .val (.long mk1_0), .second] [(.int (1 : Int32)), (.ref b)])) rfl rfl (hb hby d3_28) _ k) ?_
      show Win p.tables e below _ (T_146.setTop (mkF m 29 #[.val (.ref a), .val (.ref b), .val (.long t0), .second, .val (.int (1 : Int32)), .val (.int (1 : Int32)), .val (.long mk1_0), .second] [(.int v1)]))
      clear Ar_152 q_152 S_152 N_152 H_152 G_152 hi_152
      refine s_bipush (pc' := 31) (z := (64 : Int32)) X_146.here hx (hb hby d3_29) rfl rfl ?_
      refine Win.go (fun _ k => XS.idiv X_146.here hx rfl (hb hby d3_31) rfl (by decide) k) ?_
      show Win p.tables e below _ (T_146.setTop (mkF m 32 #[.val (.ref a), .val (.ref b), .val (.long t0), .second, .val (.int (1 : Int32)), .val (.int (1 : Int32)), .val (.long mk1_0), .second] [(.int (v1 / (64 : Int32)))]))
      refine s_iload (pc' := 34) X_146.here hx (hb hby d3_32) rfl rfl ?_
      by_cases hc34_2 : ((v1 / (64 : Int32))).toInt = (1 : Int)
      · skip
        refine s_icmpNo (pc' := 37) X_146.here hx (hb hby d3_34) rfl (teqI (x := (v1 / (64 : Int32))) (y := (1 : Int32)) hc34_2).2 ?_
        refine s_lload (pc' := 39) X_146.here hx (hb hby d3_37) rfl rfl ?_
        refine s_lconst (pc' := 40) (z := (1 : Int64)) X_146.here hx (hb hby d3_39) rfl rfl ?_
        refine s_aloadN (pc' := 41) X_146.here hx (hb hby d3_40) rfl rfl rfl ?_
        refine s_iload (pc' := 43) X_146.here hx (hb hby d3_41) rfl rfl ?_
        obtain ⟨cl_153, Ar_153, q_153, S_153, N_153, H_153, G_153⟩ := id V_b
        have hi_153 : ¬ ((1 : Int32) < 0 ∨ cl_153.slots.size ≤ ((1 : Int32)).toNatClampNeg) := inb_of S_153 ⟨by decide, by decide⟩
        refine Win.go (fun _ k => X_146.iaload hx (j := (1 : Int32)) (v := (.int v1)) (by rw [e_146]; exact Ar_153.1) (State.isArrayOf_alike hZ.alike Ar_153.2.1) Ar_153.2.2 hi_153 (H_153.at hi_153 rfl) (g := (mkF m 43 #[.val (.ref a), .val (.ref b), .val (.long t0), .second, .val (.int (1 : Int32)), .val (.int (1 : Int32)), .val (.long mk1_0), .second] [(.int (1 : Int32)), (.ref b), (.long (1 : Int64)), (.long mk1_0)])) rfl rfl (hb hby d3_43) _ k) ?_
        show Win p.tables e below _ (T_146.setTop (mkF m 44 #[.val (.ref a), .val (.ref b), .val (.long t0), .second, .val (.int (1 : Int32)), .val (.int (1 : Int32)), .val (.long mk1_0), .second] [(.int v1), (.long (1 : Int64)), (.long mk1_0)]))
        clear Ar_153 q_153 S_153 N_153 H_153 G_153 hi_153
        refine s_bipush (pc' := 46) (z := (64 : Int32)) X_146.here hx (hb hby d3_44) rfl rfl ?_
        refine Win.go (fun _ k => iremM X_146 hx rfl (hb hby d3_46) rfl (by decide) k) ?_
        show Win p.tables e below _ (T_146.setTop (mkF m 47 #[.val (.ref a), .val (.ref b), .val (.long t0), .second, .val (.int (1 : Int32)), .val (.int (1 : Int32)), .val (.long mk1_0), .second] [(.int (v1 % (64 : Int32))), (.long (1 : Int64)), (.long mk1_0)]))
        refine Win.go (fun _ k => XT.lshl X_146.here hx rfl (hb hby d3_47) rfl k) ?_
        show Win p.tables e below _ (T_146.setTop (mkF m 48 #[.val (.ref a), .val (.ref b), .val (.long t0), .second, .val (.int (1 : Int32)), .val (.int (1 : Int32)), .val (.long mk1_0), .second] [(.long ((1 : Int64) <<< ((v1 % (64 : Int32)).toInt64 &&& 63))), (.long mk1_0)]))
        refine s_lor (pc' := 49) X_146.here hx (hb hby d3_48) rfl ?_
        refine s_lstore (pc' := 51) (l' := #[.val (.ref a), .val (.ref b), .val (.long t0), .second, .val (.int (1 : Int32)), .val (.int (1 : Int32)), .val (.long (mk1_0 ||| ((1 : Int64) <<< ((v1 % (64 : Int32)).toInt64 &&& 63)))), .second]) X_146.here hx (hb hby d3_49) rfl rfl ?_
        generalize hmk1_1 : (mk1_0 ||| ((1 : Int64) <<< ((v1 % (64 : Int32)).toInt64 &&& 63))) = mk1_1
        show Win p.tables e below _ (T_146.setTop (mkF m 51 #[.val (.ref a), .val (.ref b), .val (.long t0), .second, .val (.int (1 : Int32)), .val (.int (1 : Int32)), .val (.long mk1_1), .second] []))
        refine Win.go (fun _ k => XS.iinc X_146.here hx rfl (hb hby d3_51) rfl (l' := #[.val (.ref a), .val (.ref b), .val (.long t0), .second, .val (.int (2 : Int32)), .val (.int (1 : Int32)), .val (.long mk1_1), .second]) rfl k) ?_
        show Win p.tables e below _ (T_146.setTop (mkF m 54 #[.val (.ref a), .val (.ref b), .val (.long t0), .second, .val (.int (2 : Int32)), .val (.int (1 : Int32)), .val (.long mk1_1), .second] []))
        refine s_goto (pc' := 18) X_146.here hx (hb hby d3_54) (by decide) (by decide) ?_
        refine s_iload (pc' := 20) X_146.here hx (hb hby d3_18) rfl rfl ?_
        refine s_aloadN (pc' := 21) X_146.here hx (hb hby d3_20) rfl rfl rfl ?_
        obtain ⟨cl_154, Ar_154, q_154, S_154, N_154, H_154, G_154⟩ := id V_b
        refine Win.go (fun _ k => X_146.arraylength hx (by rw [e_146]; exact Ar_154.1) (State.isArrayOf_alike hZ.alike Ar_154.2.1) (g := (mkF m 21 #[.val (.ref a), .val (.ref b), .val (.long t0), .second, .val (.int (2 : Int32)), .val (.int (1 : Int32)), .val (.long mk1_1), .second] [(.ref b), (.int (2 : Int32))])) rfl rfl (hb hby d3_21) _ k) ?_
        rw [len_of S_154 N_154]
        clear Ar_154 q_154 S_154 N_154 H_154 G_154
        show Win p.tables e below _ (T_146.setTop (mkF m 22 #[.val (.ref a), .val (.ref b), .val (.long t0), .second, .val (.int (2 : Int32)), .val (.int (1 : Int32)), .val (.long mk1_1), .second] [(.int (3 : Int32)), (.int (2 : Int32))]))
        refine s_icmpNo (pc' := 25) X_146.here hx (hb hby d3_22) rfl (tltI (x := (2 : Int32)) (y := (3 : Int32)) (by decide)).2.1 ?_
        refine s_aloadN (pc' := 26) X_146.here hx (hb hby d3_25) rfl rfl rfl ?_
        refine s_iload (pc' := 28) X_146.here hx (hb hby d3_26) rfl rfl ?_
        obtain ⟨cl_155, Ar_155, q_155, S_155, N_155, H_155, G_155⟩ := id V_b
        have hi_155 : ¬ ((2 : Int32) < 0 ∨ cl_155.slots.size ≤ ((2 : Int32)).toNatClampNeg) := inb_of S_155 ⟨by decide, by decide⟩
        refine Win.go (fun _ k => X_146.iaload hx (j := (2 : Int32)) (v := (.int v2)) (by rw [e_146]; exact Ar_155.1) (State.isArrayOf_alike hZ.alike Ar_155.2.1) Ar_155.2.2 hi_155 (H_155.at hi_155 rfl) (g := (mkF m 28 #[.val (.ref a), .val (.ref b), .val (.long t0), .second, .val (.int (2 : Int32)), .val (.int (1 : Int32)), .val (.long mk1_1), .second] [(.int (2 : Int32)), (.ref b)])) rfl rfl (hb hby d3_28) _ k) ?_
        show Win p.tables e below _ (T_146.setTop (mkF m 29 #[.val (.ref a), .val (.ref b), .val (.long t0), .second, .val (.int (2 : Int32)), .val (.int (1 : Int32)), .val (.long mk1_1), .second] [(.int v2)]))
        clear Ar_155 q_155 S_155 N_155 H_155 G_155 hi_155
        refine s_bipush (pc' := 31) (z := (64 : Int32)) X_146.here hx (hb hby d3_29) rfl rfl ?_
        refine Win.go (fun _ k => XS.idiv X_146.here hx rfl (hb hby d3_31) rfl (by decide) k) ?_
        show Win p.tables e below _ (T_146.setTop (mkF m 32 #[.val (.ref a), .val (.ref b), .val (.long t0), .second, .val (.int (2 : Int32)), .val (.int (1 : Int32)), .val (.long mk1_1), .second] [(.int (v2 / (64 : Int32)))]))
        refine s_iload (pc' := 34) X_146.here hx (hb hby d3_32) rfl rfl ?_
        by_cases hc34_3 : ((v2 / (64 : Int32))).toInt = (1 : Int)
        · skip
          refine s_icmpNo (pc' := 37) X_146.here hx (hb hby d3_34) rfl (teqI (x := (v2 / (64 : Int32))) (y := (1 : Int32)) hc34_3).2 ?_
          refine s_lload (pc' := 39) X_146.here hx (hb hby d3_37) rfl rfl ?_
          refine s_lconst (pc' := 40) (z := (1 : Int64)) X_146.here hx (hb hby d3_39) rfl rfl ?_
          refine s_aloadN (pc' := 41) X_146.here hx (hb hby d3_40) rfl rfl rfl ?_
          refine s_iload (pc' := 43) X_146.here hx (hb hby d3_41) rfl rfl ?_
          obtain ⟨cl_156, Ar_156, q_156, S_156, N_156, H_156, G_156⟩ := id V_b
          have hi_156 : ¬ ((2 : Int32) < 0 ∨ cl_156.slots.size ≤ ((2 : Int32)).toNatClampNeg) := inb_of S_156 ⟨by decide, by decide⟩
          refine Win.go (fun _ k => X_146.iaload hx (j := (2 : Int32)) (v := (.int v2)) (by rw [e_146]; exact Ar_156.1) (State.isArrayOf_alike hZ.alike Ar_156.2.1) Ar_156.2.2 hi_156 (H_156.at hi_156 rfl) (g := (mkF m 43 #[.val (.ref a), .val (.ref b), .val (.long t0), .second, .val (.int (2 : Int32)), .val (.int (1 : Int32)), .val (.long mk1_1), .second] [(.int (2 : Int32)), (.ref b), (.long (1 : Int64)), (.long mk1_1)])) rfl rfl (hb hby d3_43) _ k) ?_
          show Win p.tables e below _ (T_146.setTop (mkF m 44 #[.val (.ref a), .val (.ref b), .val (.long t0), .second, .val (.int (2 : Int32)), .val (.int (1 : Int32)), .val (.long mk1_1), .second] [(.int v2), (.long (1 : Int64)), (.long mk1_1)]))
          clear Ar_156 q_156 S_156 N_156 H_156 G_156 hi_156
          refine s_bipush (pc' := 46) (z := (64 : Int32)) X_146.here hx (hb hby d3_44) rfl rfl ?_
          refine Win.go (fun _ k => iremM X_146 hx rfl (hb hby d3_46) rfl (by decide) k) ?_
          show Win p.tables e below _ (T_146.setTop (mkF m 47 #[.val (.ref a), .val (.ref b), .val (.long t0), .second, .val (.int (2 : Int32)), .val (.int (1 : Int32)), .val (.long mk1_1), .second] [(.int (v2 % (64 : Int32))), (.long (1 : Int64)), (.long mk1_1)]))
          refine Win.go (fun _ k => XT.lshl X_146.here hx rfl (hb hby d3_47) rfl k) ?_
          show Win p.tables e below _ (T_146.setTop (mkF m 48 #[.val (.ref a), .val (.ref b), .val (.long t0), .second, .val (.int (2 : Int32)), .val (.int (1 : Int32)), .val (.long mk1_1), .second] [(.long ((1 : Int64) <<< ((v2 % (64 : Int32)).toInt64 &&& 63))), (.long mk1_1)]))
          refine s_lor (pc' := 49) X_146.here hx (hb hby d3_48) rfl ?_
          refine s_lstore (pc' := 51) (l' := #[.val (.ref a), .val (.ref b), .val (.long t0), .second, .val (.int (2 : Int32)), .val (.int (1 : Int32)), .val (.long (mk1_1 ||| ((1 : Int64) <<< ((v2 % (64 : Int32)).toInt64 &&& 63)))), .second]) X_146.here hx (hb hby d3_49) rfl rfl ?_
          generalize hmk1_2 : (mk1_1 ||| ((1 : Int64) <<< ((v2 % (64 : Int32)).toInt64 &&& 63))) = mk1_2
          show Win p.tables e below _ (T_146.setTop (mkF m 51 #[.val (.ref a), .val (.ref b), .val (.long t0), .second, .val (.int (2 : Int32)), .val (.int (1 : Int32)), .val (.long mk1_2), .second] []))
          refine Win.go (fun _ k => XS.iinc X_146.here hx rfl (hb hby d3_51) rfl (l' := #[.val (.ref a), .val (.ref b), .val (.long t0), .second, .val (.int (3 : Int32)), .val (.int (1 : Int32)), .val (.long mk1_2), .second]) rfl k) ?_
          show Win p.tables e below _ (T_146.setTop (mkF m 54 #[.val (.ref a), .val (.ref b), .val (.long t0), .second, .val (.int (3 : Int32)), .val (.int (1 : Int32)), .val (.long mk1_2), .second] []))
          refine s_goto (pc' := 18) X_146.here hx (hb hby d3_54) (by decide) (by decide) ?_
          refine s_iload (pc' := 20) X_146.here hx (hb hby d3_18) rfl rfl ?_
          refine s_aloadN (pc' := 21) X_146.here hx (hb hby d3_20) rfl rfl rfl ?_
          obtain ⟨cl_157, Ar_157, q_157, S_157, N_157, H_157, G_157⟩ := id V_b
          refine Win.go (fun _ k => X_146.arraylength hx (by rw [e_146]; exact Ar_157.1) (State.isArrayOf_alike hZ.alike Ar_157.2.1) (g := (mkF m 21 #[.val (.ref a), .val (.ref b), .val (.long t0), .second, .val (.int (3 : Int32)), .val (.int (1 : Int32)), .val (.long mk1_2), .second] [(.ref b), (.int (3 : Int32))])) rfl rfl (hb hby d3_21) _ k) ?_
          rw [len_of S_157 N_157]
          clear Ar_157 q_157 S_157 N_157 H_157 G_157
          show Win p.tables e below _ (T_146.setTop (mkF m 22 #[.val (.ref a), .val (.ref b), .val (.long t0), .second, .val (.int (3 : Int32)), .val (.int (1 : Int32)), .val (.long mk1_2), .second] [(.int (3 : Int32)), (.int (3 : Int32))]))
          refine s_icmpYes (pc' := 57) X_146.here hx (hb hby d3_22) (fltI (x := (3 : Int32)) (y := (3 : Int32)) (by decide)).2.1 (by decide) (by decide) ?_
          refine s_lloadN (pc' := 58) X_146.here hx (hb hby d3_57) rfl rfl ?_
          refine s_aloadN (pc' := 59) X_146.here hx (hb hby d3_58) rfl rfl rfl ?_
          refine s_iload (pc' := 61) X_146.here hx (hb hby d3_59) rfl rfl ?_
          obtain ⟨cl_158, Ar_158, q_158, S_158, N_158, H_158, G_158⟩ := id V_a
          have hi_158 : ¬ ((1 : Int32) < 0 ∨ cl_158.slots.size ≤ ((1 : Int32)).toNatClampNeg) := inb_of S_158 ⟨by decide, by decide⟩
          refine Win.go (fun _ k => X_146.laload hx (j := (1 : Int32)) (v := (.long u1)) (by rw [e_146]; exact Ar_158.1) (State.isArrayOf_alike hZ.alike Ar_158.2.1) Ar_158.2.2 hi_158 (H_158.at hi_158 rfl) (g := (mkF m 61 #[.val (.ref a), .val (.ref b), .val (.long t0), .second, .val (.int (3 : Int32)), .val (.int (1 : Int32)), .val (.long mk1_2), .second] [(.int (1 : Int32)), (.ref a), (.long t0)])) rfl rfl (hb hby d3_61) _ k) ?_
          show Win p.tables e below _ (T_146.setTop (mkF m 62 #[.val (.ref a), .val (.ref b), .val (.long t0), .second, .val (.int (3 : Int32)), .val (.int (1 : Int32)), .val (.long mk1_2), .second] [(.long u1), (.long t0)]))
          clear Ar_158 q_158 S_158 N_158 H_158 G_158 hi_158
          refine s_lload (pc' := 64) X_146.here hx (hb hby d3_62) rfl rfl ?_
          refine Win.go (fun _ k => X_146.ldc2Long hx hown (mvT hZ (hw _ (List.mem_of_getElem? (i := 14) rfl))) (g := (mkF m 64 #[.val (.ref a), .val (.ref b), .val (.long t0), .second, .val (.int (3 : Int32)), .val (.int (1 : Int32)), .val (.long mk1_2), .second] [(.long mk1_2), (.long u1), (.long t0)])) rfl (hb hby d3_64) _ k) ?_
          show Win p.tables e below _ (T_146.setTop (mkF m 67 #[.val (.ref a), .val (.ref b), .val (.long t0), .second, .val (.int (3 : Int32)), .val (.int (1 : Int32)), .val (.long mk1_2), .second] [(.long (-1 : Int64)), (.long mk1_2), (.long u1), (.long t0)]))
          refine s_lxor (pc' := 68) X_146.here hx (hb hby d3_67) rfl ?_
          refine s_land (pc' := 69) X_146.here hx (hb hby d3_68) rfl ?_
          refine s_lor (pc' := 70) X_146.here hx (hb hby d3_69) rfl ?_
          refine s_lstoreN (pc' := 71) (l' := #[.val (.ref a), .val (.ref b), .val (.long (t0 ||| (u1 &&& (mk1_2 ^^^ (-1 : Int64))))), .second, .val (.int (3 : Int32)), .val (.int (1 : Int32)), .val (.long mk1_2), .second]) X_146.here hx (hb hby d3_70) rfl rfl ?_
          generalize ht1 : (t0 ||| (u1 &&& (mk1_2 ^^^ (-1 : Int64)))) = t1
          show Win p.tables e below _ (T_146.setTop (mkF m 71 #[.val (.ref a), .val (.ref b), .val (.long t1), .second, .val (.int (3 : Int32)), .val (.int (1 : Int32)), .val (.long mk1_2), .second] []))
          refine s_aloadN (pc' := 72) X_146.here hx (hb hby d3_71) rfl rfl rfl ?_
          refine s_iload (pc' := 74) X_146.here hx (hb hby d3_72) rfl rfl ?_
          refine Win.go (fun _ k => XT.dup2 X_146.here hx rfl (hb hby d3_74) rfl rfl rfl k) ?_
          show Win p.tables e below _ (T_146.setTop (mkF m 75 #[.val (.ref a), .val (.ref b), .val (.long t1), .second, .val (.int (3 : Int32)), .val (.int (1 : Int32)), .val (.long mk1_2), .second] [(.int (1 : Int32)), (.ref a), (.int (1 : Int32)), (.ref a)]))
          obtain ⟨cl_159, Ar_159, q_159, S_159, N_159, H_159, G_159⟩ := id V_a
          have hi_159 : ¬ ((1 : Int32) < 0 ∨ cl_159.slots.size ≤ ((1 : Int32)).toNatClampNeg) := inb_of S_159 ⟨by decide, by decide⟩
          refine Win.go (fun _ k => X_146.laload hx (j := (1 : Int32)) (v := (.long u1)) (by rw [e_146]; exact Ar_159.1) (State.isArrayOf_alike hZ.alike Ar_159.2.1) Ar_159.2.2 hi_159 (H_159.at hi_159 rfl) (g := (mkF m 75 #[.val (.ref a), .val (.ref b), .val (.long t1), .second, .val (.int (3 : Int32)), .val (.int (1 : Int32)), .val (.long mk1_2), .second] [(.int (1 : Int32)), (.ref a), (.int (1 : Int32)), (.ref a)])) rfl rfl (hb hby d3_75) _ k) ?_
          show Win p.tables e below _ (T_146.setTop (mkF m 76 #[.val (.ref a), .val (.ref b), .val (.long t1), .second, .val (.int (3 : Int32)), .val (.int (1 : Int32)), .val (.long mk1_2), .second] [(.long u1), (.int (1 : Int32)), (.ref a)]))
          clear Ar_159 q_159 S_159 N_159 H_159 G_159 hi_159
          refine s_lload (pc' := 78) X_146.here hx (hb hby d3_76) rfl rfl ?_
          refine s_land (pc' := 79) X_146.here hx (hb hby d3_78) rfl ?_
          obtain ⟨cl_160, Ar_160, q_160, S_160, N_160, H_160, G_160⟩ := V_a
          obtain ⟨T_160, h_160, X_160, e_160, W_160, st_160⟩ := stJ X_146 hx hZ e_146 Ar_160 (j := (1 : Int32)) (inb_of S_160 ⟨by decide, by decide⟩) (g := (mkF m 79 #[.val (.ref a), .val (.ref b), .val (.long t1), .second, .val (.int (3 : Int32)), .val (.int (1 : Int32)), .val (.long mk1_2), .second] [(.long (u1 &&& mk1_2)), (.int (1 : Int32)), (.ref a)])) rfl rfl (hb hby d3_79)
          have V_160 := Arv.set Ar_160 q_160 S_160 N_160 H_160 G_160 rfl W_160 1 rfl (Nat.le_of_ble_eq_true rfl)
          replace V_b := V_b.other W_160 ne_b_a
          replace lt_a := Nat.lt_of_lt_of_le lt_a (Keep.of_wr W_160).1
          replace lt_b := Nat.lt_of_lt_of_le lt_b (Keep.of_wr W_160).1
          replace Zs := Nat.le_trans Zs (Keep.of_wr W_160).1
          replace Kp := Kp.wr W_160 (Or.inl (by simp))
          replace V_a : Arv Z h_160 a ka .long (2 : Int32) [(.long (u0 &&& (0 : Int64))), (.long (u1 &&& mk1_2))] (.long (0 : Int64)) := V_160
          replace Nf := Fr.snoc X_160 Nf g_a
          refine Win.go st_160 ?_
          clear st_160 W_160 V_160 Ar_160 q_160 S_160 N_160 H_160 G_160 X_146 e_146
          show Win p.tables e below _ (T_160.setTop (mkF m 80 #[.val (.ref a), .val (.ref b), .val (.long t1), .second, .val (.int (3 : Int32)), .val (.int (1 : Int32)), .val (.long mk1_2), .second] []))
          refine Win.go (fun _ k => XS.iinc X_160.here hx rfl (hb hby d3_80) rfl (l' := #[.val (.ref a), .val (.ref b), .val (.long t1), .second, .val (.int (3 : Int32)), .val (.int (2 : Int32)), .val (.long mk1_2), .second]) rfl k) ?_
          show Win p.tables e below _ (T_160.setTop (mkF m 83 #[.val (.ref a), .val (.ref b), .val (.long t1), .second, .val (.int (3 : Int32)), .val (.int (2 : Int32)), .val (.long mk1_2), .second] []))
          refine s_goto (pc' := 8) X_160.here hx (hb hby d3_83) (by decide) (by decide) ?_
          refine s_iload (pc' := 10) X_160.here hx (hb hby d3_8) rfl rfl ?_
          refine s_aloadN (pc' := 11) X_160.here hx (hb hby d3_10) rfl rfl rfl ?_
          obtain ⟨cl_161, Ar_161, q_161, S_161, N_161, H_161, G_161⟩ := id V_a
          refine Win.go (fun _ k => X_160.arraylength hx (by rw [e_160]; exact Ar_161.1) (State.isArrayOf_alike hZ.alike Ar_161.2.1) (g := (mkF m 11 #[.val (.ref a), .val (.ref b), .val (.long t1), .second, .val (.int (3 : Int32)), .val (.int (2 : Int32)), .val (.long mk1_2), .second] [(.ref a), (.int (2 : Int32))])) rfl rfl (hb hby d3_11) _ k) ?_
          rw [len_of S_161 N_161]
          clear Ar_161 q_161 S_161 N_161 H_161 G_161
          show Win p.tables e below _ (T_160.setTop (mkF m 12 #[.val (.ref a), .val (.ref b), .val (.long t1), .second, .val (.int (3 : Int32)), .val (.int (2 : Int32)), .val (.long mk1_2), .second] [(.int (2 : Int32)), (.int (2 : Int32))]))
          refine s_icmpYes (pc' := 86) X_160.here hx (hb hby d3_12) (fltI (x := (2 : Int32)) (y := (2 : Int32)) (by decide)).2.1 (by decide) (by decide) ?_
          refine s_lloadN (pc' := 87) X_160.here hx (hb hby d3_86) rfl rfl ?_
          refine s_lconst (pc' := 88) (z := (0 : Int64)) X_160.here hx (hb hby d3_87) rfl rfl ?_
          refine s_lcmp (pc' := 89) X_160.here hx (hb hby d3_88) rfl ?_
          by_cases hc89_4 : (t1).toInt = (0 : Int)
          · skip
            refine s_ifYes (pc' := 96) X_160.here hx (hb hby d3_89) (teqL (x := t1) (y := (0 : Int64)) hc89_4).1 (by decide) (by decide) ?_
            refine s_iconst (pc' := 97) (z := (0 : Int32)) X_160.here hx (hb hby d3_96) rfl rfl ?_
            refine winN X_160 hx hlk e_160 (t := .boolean) Bd.returns (by simp) (hb hby d3_97) (by decide) (by decide) (z' := (0 : Int32)) rfl ?_
            have e0 := own_hi (v := v0) (by omega) (by omega)
            have e1 := own_hi (v := v1) (by omega) (by omega)
            have e2 := own_hi (v := v2) (by omega) (by omega)
            have mA : ((((bit0 v0) ||| (bit0 v1)) ||| (bit0 v2)) ||| (0 : Int64)) = (0 : Int64) := by simp only [e0.1, e0.2, e1.1, e1.2, e2.1, e2.2, Int64.or_zero, Int64.zero_or]
            have mB : ((((bit1 v0) ||| (bit1 v1)) ||| (bit1 v2)) ||| (0 : Int64)) = mk1_2 := by rw [← hmk1_2, ← hmk1_1, ← hmk1_0]; simp only [e0.1, e0.2, e1.1, e1.2, e2.1, e2.2, Int64.or_zero, Int64.zero_or]
            have tt : (((0 : Int64) ||| (u0 &&& (((((bit0 v0) ||| (bit0 v1)) ||| (bit0 v2)) ||| (0 : Int64)) ^^^ (-1 : Int64)))) ||| (u1 &&& (((((bit1 v0) ||| (bit1 v1)) ||| (bit1 v2)) ||| (0 : Int64)) ^^^ (-1 : Int64)))) = t1 := by rw [mA, mB, show ((0 : Int64) ^^^ (-1 : Int64)) = -1 from by decide, ht0, ht1]
            refine ⟨Nf, Kp, by rw [mA, mB]; exact V_a, _, rfl, Or.inr ⟨rfl, ?_⟩⟩
            rw [tt]
            exact fun q => q hc89_4
          · skip
            refine s_ifNo (pc' := 92) X_160.here hx (hb hby d3_89) rfl (feqL (x := t1) (y := (0 : Int64)) hc89_4).1 ?_
            refine s_iconst (pc' := 93) (z := (1 : Int32)) X_160.here hx (hb hby d3_92) rfl rfl ?_
            refine s_goto (pc' := 97) X_160.here hx (hb hby d3_93) (by decide) (by decide) ?_
            refine winN X_160 hx hlk e_160 (t := .boolean) Bd.returns (by simp) (hb hby d3_97) (by decide) (by decide) (z' := (1 : Int32)) rfl ?_
            have e0 := own_hi (v := v0) (by omega) (by omega)
            have e1 := own_hi (v := v1) (by omega) (by omega)
            have e2 := own_hi (v := v2) (by omega) (by omega)
            have mA : ((((bit0 v0) ||| (bit0 v1)) ||| (bit0 v2)) ||| (0 : Int64)) = (0 : Int64) := by simp only [e0.1, e0.2, e1.1, e1.2, e2.1, e2.2, Int64.or_zero, Int64.zero_or]
            have mB : ((((bit1 v0) ||| (bit1 v1)) ||| (bit1 v2)) ||| (0 : Int64)) = mk1_2 := by rw [← hmk1_2, ← hmk1_1, ← hmk1_0]; simp only [e0.1, e0.2, e1.1, e1.2, e2.1, e2.2, Int64.or_zero, Int64.zero_or]
            have tt : (((0 : Int64) ||| (u0 &&& (((((bit0 v0) ||| (bit0 v1)) ||| (bit0 v2)) ||| (0 : Int64)) ^^^ (-1 : Int64)))) ||| (u1 &&& (((((bit1 v0) ||| (bit1 v1)) ||| (bit1 v2)) ||| (0 : Int64)) ^^^ (-1 : Int64)))) = t1 := by rw [mA, mB, show ((0 : Int64) ^^^ (-1 : Int64)) = -1 from by decide, ht0, ht1]
            refine ⟨Nf, Kp, by rw [mA, mB]; exact V_a, _, rfl, Or.inl ⟨rfl, ?_⟩⟩
            rw [tt]
            exact hc89_4
        · skip
          exfalso
          omega
      · skip
        exfalso
        omega
    · skip
      exfalso
      omega
theorem ef_3_4 (m : MethodId) (a : Addr) (b : Addr) : entryFrame m #[(.ref a), (.ref b)] 8 = mkF m 0 #[.val (.ref a), .val (.ref b), .unset, .unset, .unset, .unset, .unset, .unset] [] := by first | (simp [entryFrame, mkF, argsToLocals, Value.category]; done) | rfl
def Q3_4 (Z : State) (a : Addr) (b : Addr) (ka : ClassId) (u0 : Int64) (u1 : Int64) (kb : ClassId) (v0 : Int32) (v1 : Int32) (v2 : Int32) (v3 : Int32) (h0 : Heap) (n0 : Nat) (v : Option Value) (h : Heap) (L : List Loc) : Prop := Fr n0 L ∧ Keep h0 h [a] ∧ Arv Z h a ka .long (2 : Int32) [(.long (u0 &&& ((((bit0 v0) ||| (bit0 v1)) ||| (bit0 v2)) ||| (bit0 v3)))), (.long (u1 &&& ((((bit1 v0) ||| (bit1 v1)) ||| (bit1 v2)) ||| (bit1 v3))))] (.long (0 : Int64)) ∧ (∃ z : Int32, v = some (.int z) ∧ ((z.toInt = 1 ∧ (¬ ((((0 : Int64) ||| (u0 &&& (((((bit0 v0) ||| (bit0 v1)) ||| (bit0 v2)) ||| (bit0 v3)) ^^^ (-1 : Int64)))) ||| (u1 &&& (((((bit1 v0) ||| (bit1 v1)) ||| (bit1 v2)) ||| (bit1 v3)) ^^^ (-1 : Int64))))).toInt = 0)) ∨ (z.toInt = 0 ∧ ¬ (¬ ((((0 : Int64) ||| (u0 &&& (((((bit0 v0) ||| (bit0 v1)) ||| (bit0 v2)) ||| (bit0 v3)) ^^^ (-1 : Int64)))) ||| (u1 &&& (((((bit1 v0) ||| (bit1 v1)) ||| (bit1 v2)) ||| (bit1 v3)) ^^^ (-1 : Int64))))).toInt = 0))))
set_option maxRecDepth 65536 in
set_option maxHeartbeats 40000000 in
theorem rm3_4 (l : Launch) (Z : State) (a0 : Array Value) (hw : ∀ d ∈ tables_1, d.before a0 Z = true) (ws : List Jvm.Cond) (a : Addr) (b : Addr) (ka : ClassId) (u0 : Int64) (u1 : Int64) (kb : ClassId) (v0 : Int32) (v1 : Int32) (v2 : Int32) (v3 : Int32) (h0 : Heap) (n0 : Nat) (Zs : n0 ≤ h0.size) (V_a : Arv Z h0 a ka .long (2 : Int32) [(.long u0), (.long u1)] (.long (0 : Int64))) (V_b : Arv Z h0 b kb .int (4 : Int32) [(.int v0), (.int v1), (.int v2), (.int v3)] (.int (0 : Int32))) (g_a : n0 ≤ a) (ne_b_a : b ≠ a) (hv : 0 ≤ v0.toInt ∧ v0.toInt < v1.toInt ∧ v1.toInt < v2.toInt ∧ v2.toInt < v3.toInt ∧ v3.toInt < 128) :
    MetFree l (⟨"com/example/faithful_deputy/faithfuldeputy/Bits", "keepOnly", "([J[I)Z"⟩ : MethodName) (head1 (Jvm.Cond.code (⟨"com/example/faithful_deputy/faithfuldeputy/Bits", "keepOnly", "([J[I)Z"⟩ : MethodName) prog_2_method_8_code 8 (some .boolean) :: ws) ({ frames := 0, cells := 0, slots := 0, locals := 0 } : Room)) (fun as' U => as' = #[(.ref a), (.ref b)] ∧ Z.Warmed39 U.vm ∧ U.heap = h0) (fun _ _ _ _ _ => True) (fun _ U o U' => ∃ v L, o = .returned v ∧ Q3_4 Z a b ka u0 u1 kb v0 v1 v2 v3 h0 n0 v U'.heap L ∧ FrameEnd U o U' L ({ frames := 0, cells := 0, slots := 0, locals := 0 } : Room).cells ({ frames := 0, cells := 0, slots := 0, locals := 0 } : Room).slots) := by
  refine MetFree.of_bodySF (plainFor_of_name pn_3) hisR ?_
  intro p e s m args below meth c s₁ Bd hml0 hP hK
  obtain ⟨rfl, hZ, hh⟩ := hP
  have hx := Bd.exec
  have hby := Bd.bytes
  have hml : c.maxLocals = 8 := hml0
  have hown : s.vm.findClass "com/example/faithful_deputy/faithfuldeputy/Bits" = some m.cls := findClass_of_methodNamed Bd.named
  have hnm := (name_of_methodNamed Bd.named Bd.method).1
  have hlk : meth.locks = false := Bd.notSynchronized
  have X0 : Stand p l e ({ frames := 0, cells := 0, slots := 0, locals := 0 } : Room) s m #[(.ref a), (.ref b)] below meth c s₁ [] 0 0 := Stand.of_body Bd
  have e0 : s₁.heap = h0 := by rw [← hh, Bd.state]; rfl
  have Nf := Fr.nil n0
  refine (?_ : Win p.tables e below (PostQ s (Q3_4 Z a b ka u0 u1 kb v0 v1 v2 v3 h0 n0) ({ frames := 0, cells := 0, slots := 0, locals := 0 } : Room).cells ({ frames := 0, cells := 0, slots := 0, locals := 0 } : Room).slots) (s₁.setTop (entryFrame m #[(.ref a), (.ref b)] 8)))
  rw [ef_3_4]
  have Kp : Keep h0 h0 [a] := Keep.refl h0 _
  have lt_a : a < h0.size := V_a.lt
  have lt_b : b < h0.size := V_b.lt
  have d0 := own_d (v := v0) (by omega)
  have d1 := own_d (v := v1) (by omega)
  have d2 := own_d (v := v2) (by omega)
  have d3 := own_d (v := v3) (by omega)
  show Win p.tables e below _ (s₁.setTop (mkF m 0 #[.val (.ref a), .val (.ref b), .unset, .unset, .unset, .unset, .unset, .unset] []))
  refine s_lconst (pc' := 1) (z := (0 : Int64)) X0.here hx (hb hby d3_0) rfl rfl ?_
  refine s_lstoreN (pc' := 2) (l' := #[.val (.ref a), .val (.ref b), .val (.long (0 : Int64)), .second, .unset, .unset, .unset, .unset]) X0.here hx (hb hby d3_1) rfl rfl ?_
  refine s_iconst (pc' := 3) (z := (0 : Int32)) X0.here hx (hb hby d3_2) rfl rfl ?_
  refine s_istore (pc' := 5) (l' := #[.val (.ref a), .val (.ref b), .val (.long (0 : Int64)), .second, .val (.int (0 : Int32)), .unset, .unset, .unset]) X0.here hx (hb hby d3_3) rfl rfl ?_
  refine s_iconst (pc' := 6) (z := (0 : Int32)) X0.here hx (hb hby d3_5) rfl rfl ?_
  refine s_istore (pc' := 8) (l' := #[.val (.ref a), .val (.ref b), .val (.long (0 : Int64)), .second, .val (.int (0 : Int32)), .val (.int (0 : Int32)), .unset, .unset]) X0.here hx (hb hby d3_6) rfl rfl ?_
  refine s_iload (pc' := 10) X0.here hx (hb hby d3_8) rfl rfl ?_
  refine s_aloadN (pc' := 11) X0.here hx (hb hby d3_10) rfl rfl rfl ?_
  obtain ⟨cl_162, Ar_162, q_162, S_162, N_162, H_162, G_162⟩ := id V_a
  refine Win.go (fun _ k => X0.arraylength hx (by rw [e0]; exact Ar_162.1) (State.isArrayOf_alike hZ.alike Ar_162.2.1) (g := (mkF m 11 #[.val (.ref a), .val (.ref b), .val (.long (0 : Int64)), .second, .val (.int (0 : Int32)), .val (.int (0 : Int32)), .unset, .unset] [(.ref a), (.int (0 : Int32))])) rfl rfl (hb hby d3_11) _ k) ?_
  rw [len_of S_162 N_162]
  clear Ar_162 q_162 S_162 N_162 H_162 G_162
  show Win p.tables e below _ (s₁.setTop (mkF m 12 #[.val (.ref a), .val (.ref b), .val (.long (0 : Int64)), .second, .val (.int (0 : Int32)), .val (.int (0 : Int32)), .unset, .unset] [(.int (2 : Int32)), (.int (0 : Int32))]))
  refine s_icmpNo (pc' := 15) X0.here hx (hb hby d3_12) rfl (tltI (x := (0 : Int32)) (y := (2 : Int32)) (by decide)).2.1 ?_
  refine s_lconst (pc' := 16) (z := (0 : Int64)) X0.here hx (hb hby d3_15) rfl rfl ?_
  refine s_lstore (pc' := 18) (l' := #[.val (.ref a), .val (.ref b), .val (.long (0 : Int64)), .second, .val (.int (0 : Int32)), .val (.int (0 : Int32)), .val (.long (0 : Int64)), .second]) X0.here hx (hb hby d3_16) rfl rfl ?_
  refine s_iload (pc' := 20) X0.here hx (hb hby d3_18) rfl rfl ?_
  refine s_aloadN (pc' := 21) X0.here hx (hb hby d3_20) rfl rfl rfl ?_
  obtain ⟨cl_163, Ar_163, q_163, S_163, N_163, H_163, G_163⟩ := id V_b
  refine Win.go (fun _ k => X0.arraylength hx (by rw [e0]; exact Ar_163.1) (State.isArrayOf_alike hZ.alike Ar_163.2.1) (g := (mkF m 21 #[.val (.ref a), .val (.ref b), .val (.long (0 : Int64)), .second, .val (.int (0 : Int32)), .val (.int (0 : Int32)), .val (.long (0 : Int64)), .second] [(.ref b), (.int (0 : Int32))])) rfl rfl (hb hby d3_21) _ k) ?_
  rw [len_of S_163 N_163]
  clear Ar_163 q_163 S_163 N_163 H_163 G_163
  show Win p.tables e below _ (s₁.setTop (mkF m 22 #[.val (.ref a), .val (.ref b), .val (.long (0 : Int64)), .second, .val (.int (0 : Int32)), .val (.int (0 : Int32)), .val (.long (0 : Int64)), .second] [(.int (4 : Int32)), (.int (0 : Int32))]))
  refine s_icmpNo (pc' := 25) X0.here hx (hb hby d3_22) rfl (tltI (x := (0 : Int32)) (y := (4 : Int32)) (by decide)).2.1 ?_
  refine s_aloadN (pc' := 26) X0.here hx (hb hby d3_25) rfl rfl rfl ?_
  refine s_iload (pc' := 28) X0.here hx (hb hby d3_26) rfl rfl ?_
  obtain ⟨cl_164, Ar_164, q_164, S_164, N_164, H_164, G_164⟩ := id V_b
  have hi_164 : ¬ ((0 : Int32) < 0 ∨ cl_164.slots.size ≤ ((0 : Int32)).toNatClampNeg) := inb_of S_164 ⟨by decide, by decide⟩
  refine Win.go (fun _ k => X0.iaload hx (j := (0 : Int32)) (v := (.int v0)) (by rw [e0]; exact Ar_164.1) (State.isArrayOf_alike hZ.alike Ar_164.2.1) Ar_164.2.2 hi_164 (H_164.at hi_164 rfl) (g := (mkF m 28 #[.val (.ref a), .val (.ref b), .val (.long (0 : Int64)), .second, .val (.int (0 : Int32)), .val (.int (0 : Int32)), .val (.long (0 : Int64)), .second] [(.int (0 : Int32)), (.ref b)])) rfl rfl (hb hby d3_28) _ k) ?_
  show Win p.tables e below _ (s₁.setTop (mkF m 29 #[.val (.ref a), .val (.ref b), .val (.long (0 : Int64)), .second, .val (.int (0 : Int32)), .val (.int (0 : Int32)), .val (.long (0 : Int64)), .second] [(.int v0)]))
  clear Ar_164 q_164 S_164 N_164 H_164 G_164 hi_164
  refine s_bipush (pc' := 31) (z := (64 : Int32)) X0.here hx (hb hby d3_29) rfl rfl ?_
  refine Win.go (fun _ k => XS.idiv X0.here hx rfl (hb hby d3_31) rfl (by decide) k) ?_
  show Win p.tables e below _ (s₁.setTop (mkF m 32 #[.val (.ref a), .val (.ref b), .val (.long (0 : Int64)), .second, .val (.int (0 : Int32)), .val (.int (0 : Int32)), .val (.long (0 : Int64)), .second] [(.int (v0 / (64 : Int32)))]))
  refine s_iload (pc' := 34) X0.here hx (hb hby d3_32) rfl rfl ?_
  by_cases hc34_0 : ((v0 / (64 : Int32))).toInt = (0 : Int)
  · skip
    refine s_icmpNo (pc' := 37) X0.here hx (hb hby d3_34) rfl (teqI (x := (v0 / (64 : Int32))) (y := (0 : Int32)) hc34_0).2 ?_
    refine s_lload (pc' := 39) X0.here hx (hb hby d3_37) rfl rfl ?_
    refine s_lconst (pc' := 40) (z := (1 : Int64)) X0.here hx (hb hby d3_39) rfl rfl ?_
    refine s_aloadN (pc' := 41) X0.here hx (hb hby d3_40) rfl rfl rfl ?_
    refine s_iload (pc' := 43) X0.here hx (hb hby d3_41) rfl rfl ?_
    obtain ⟨cl_165, Ar_165, q_165, S_165, N_165, H_165, G_165⟩ := id V_b
    have hi_165 : ¬ ((0 : Int32) < 0 ∨ cl_165.slots.size ≤ ((0 : Int32)).toNatClampNeg) := inb_of S_165 ⟨by decide, by decide⟩
    refine Win.go (fun _ k => X0.iaload hx (j := (0 : Int32)) (v := (.int v0)) (by rw [e0]; exact Ar_165.1) (State.isArrayOf_alike hZ.alike Ar_165.2.1) Ar_165.2.2 hi_165 (H_165.at hi_165 rfl) (g := (mkF m 43 #[.val (.ref a), .val (.ref b), .val (.long (0 : Int64)), .second, .val (.int (0 : Int32)), .val (.int (0 : Int32)), .val (.long (0 : Int64)), .second] [(.int (0 : Int32)), (.ref b), (.long (1 : Int64)), (.long (0 : Int64))])) rfl rfl (hb hby d3_43) _ k) ?_
    show Win p.tables e below _ (s₁.setTop (mkF m 44 #[.val (.ref a), .val (.ref b), .val (.long (0 : Int64)), .second, .val (.int (0 : Int32)), .val (.int (0 : Int32)), .val (.long (0 : Int64)), .second] [(.int v0), (.long (1 : Int64)), (.long (0 : Int64))]))
    clear Ar_165 q_165 S_165 N_165 H_165 G_165 hi_165
    refine s_bipush (pc' := 46) (z := (64 : Int32)) X0.here hx (hb hby d3_44) rfl rfl ?_
    refine Win.go (fun _ k => iremM X0 hx rfl (hb hby d3_46) rfl (by decide) k) ?_
    show Win p.tables e below _ (s₁.setTop (mkF m 47 #[.val (.ref a), .val (.ref b), .val (.long (0 : Int64)), .second, .val (.int (0 : Int32)), .val (.int (0 : Int32)), .val (.long (0 : Int64)), .second] [(.int (v0 % (64 : Int32))), (.long (1 : Int64)), (.long (0 : Int64))]))
    refine Win.go (fun _ k => XT.lshl X0.here hx rfl (hb hby d3_47) rfl k) ?_
    show Win p.tables e below _ (s₁.setTop (mkF m 48 #[.val (.ref a), .val (.ref b), .val (.long (0 : Int64)), .second, .val (.int (0 : Int32)), .val (.int (0 : Int32)), .val (.long (0 : Int64)), .second] [(.long ((1 : Int64) <<< ((v0 % (64 : Int32)).toInt64 &&& 63))), (.long (0 : Int64))]))
    refine s_lor (pc' := 49) X0.here hx (hb hby d3_48) rfl ?_
    refine s_lstore (pc' := 51) (l' := #[.val (.ref a), .val (.ref b), .val (.long (0 : Int64)), .second, .val (.int (0 : Int32)), .val (.int (0 : Int32)), .val (.long ((0 : Int64) ||| ((1 : Int64) <<< ((v0 % (64 : Int32)).toInt64 &&& 63)))), .second]) X0.here hx (hb hby d3_49) rfl rfl ?_
    generalize hmk0_0 : ((0 : Int64) ||| ((1 : Int64) <<< ((v0 % (64 : Int32)).toInt64 &&& 63))) = mk0_0
    show Win p.tables e below _ (s₁.setTop (mkF m 51 #[.val (.ref a), .val (.ref b), .val (.long (0 : Int64)), .second, .val (.int (0 : Int32)), .val (.int (0 : Int32)), .val (.long mk0_0), .second] []))
    refine Win.go (fun _ k => XS.iinc X0.here hx rfl (hb hby d3_51) rfl (l' := #[.val (.ref a), .val (.ref b), .val (.long (0 : Int64)), .second, .val (.int (1 : Int32)), .val (.int (0 : Int32)), .val (.long mk0_0), .second]) rfl k) ?_
    show Win p.tables e below _ (s₁.setTop (mkF m 54 #[.val (.ref a), .val (.ref b), .val (.long (0 : Int64)), .second, .val (.int (1 : Int32)), .val (.int (0 : Int32)), .val (.long mk0_0), .second] []))
    refine s_goto (pc' := 18) X0.here hx (hb hby d3_54) (by decide) (by decide) ?_
    refine s_iload (pc' := 20) X0.here hx (hb hby d3_18) rfl rfl ?_
    refine s_aloadN (pc' := 21) X0.here hx (hb hby d3_20) rfl rfl rfl ?_
    obtain ⟨cl_166, Ar_166, q_166, S_166, N_166, H_166, G_166⟩ := id V_b
    refine Win.go (fun _ k => X0.arraylength hx (by rw [e0]; exact Ar_166.1) (State.isArrayOf_alike hZ.alike Ar_166.2.1) (g := (mkF m 21 #[.val (.ref a), .val (.ref b), .val (.long (0 : Int64)), .second, .val (.int (1 : Int32)), .val (.int (0 : Int32)), .val (.long mk0_0), .second] [(.ref b), (.int (1 : Int32))])) rfl rfl (hb hby d3_21) _ k) ?_
    rw [len_of S_166 N_166]
    clear Ar_166 q_166 S_166 N_166 H_166 G_166
    show Win p.tables e below _ (s₁.setTop (mkF m 22 #[.val (.ref a), .val (.ref b), .val (.long (0 : Int64)), .second, .val (.int (1 : Int32)), .val (.int (0 : Int32)), .val (.long mk0_0), .second] [(.int (4 : Int32)), (.int (1 : Int32))]))
    refine s_icmpNo (pc' := 25) X0.here hx (hb hby d3_22) rfl (tltI (x := (1 : Int32)) (y := (4 : Int32)) (by decide)).2.1 ?_
    refine s_aloadN (pc' := 26) X0.here hx (hb hby d3_25) rfl rfl rfl ?_
    refine s_iload (pc' := 28) X0.here hx (hb hby d3_26) rfl rfl ?_
    obtain ⟨cl_167, Ar_167, q_167, S_167, N_167, H_167, G_167⟩ := id V_b
    have hi_167 : ¬ ((1 : Int32) < 0 ∨ cl_167.slots.size ≤ ((1 : Int32)).toNatClampNeg) := inb_of S_167 ⟨by decide, by decide⟩
    refine Win.go (fun _ k => X0.iaload hx (j := (1 : Int32)) (v := (.int v1)) (by rw [e0]; exact Ar_167.1) (State.isArrayOf_alike hZ.alike Ar_167.2.1) Ar_167.2.2 hi_167 (H_167.at hi_167 rfl) (g := (mkF m 28 #[.val (.ref a), .val (.ref b), .val (.long (0 : Int64)), .second, .val (.int (1 : Int32)), .val (.int (0 : Int32)), .val (.long mk0_0), .second] [(.int (1 : Int32)), (.ref b)])) rfl rfl (hb hby d3_28) _ k) ?_
    show Win p.tables e below _ (s₁.setTop (mkF m 29 #[.val (.ref a), .val (.ref b), .val (.long (0 : Int64)), .second, .val (.int (1 : Int32)), .val (.int (0 : Int32)), .val (.long mk0_0), .second] [(.int v1)]))
    clear Ar_167 q_167 S_167 N_167 H_167 G_167 hi_167
    refine s_bipush (pc' := 31) (z := (64 : Int32)) X0.here hx (hb hby d3_29) rfl rfl ?_
    refine Win.go (fun _ k => XS.idiv X0.here hx rfl (hb hby d3_31) rfl (by decide) k) ?_
    show Win p.tables e below _ (s₁.setTop (mkF m 32 #[.val (.ref a), .val (.ref b), .val (.long (0 : Int64)), .second, .val (.int (1 : Int32)), .val (.int (0 : Int32)), .val (.long mk0_0), .second] [(.int (v1 / (64 : Int32)))]))
    refine s_iload (pc' := 34) X0.here hx (hb hby d3_32) rfl rfl ?_
    by_cases hc34_1 : ((v1 / (64 : Int32))).toInt = (0 : Int)
    · skip
      refine s_icmpNo (pc' := 37) X0.here hx (hb hby d3_34) rfl (teqI (x := (v1 / (64 : Int32))) (y := (0 : Int32)) hc34_1).2 ?_
      refine s_lload (pc' := 39) X0.here hx (hb hby d3_37) rfl rfl ?_
      refine s_lconst (pc' := 40) (z := (1 : Int64)) X0.here hx (hb hby d3_39) rfl rfl ?_
      refine s_aloadN (pc' := 41) X0.here hx (hb hby d3_40) rfl rfl rfl ?_
      refine s_iload (pc' := 43) X0.here hx (hb hby d3_41) rfl rfl ?_
      obtain ⟨cl_168, Ar_168, q_168, S_168, N_168, H_168, G_168⟩ := id V_b
      have hi_168 : ¬ ((1 : Int32) < 0 ∨ cl_168.slots.size ≤ ((1 : Int32)).toNatClampNeg) := inb_of S_168 ⟨by decide, by decide⟩
      refine Win.go (fun _ k => X0.iaload hx (j := (1 : Int32)) (v := (.int v1)) (by rw [e0]; exact Ar_168.1) (State.isArrayOf_alike hZ.alike Ar_168.2.1) Ar_168.2.2 hi_168 (H_168.at hi_168 rfl) (g := (mkF m 43 #[.val (.ref a), .val (.ref b), .val (.long (0 : Int64)), .second, .val (.int (1 : Int32)), .val (.int (0 : Int32)), .val (.long mk0_0), .second] [(.int (1 : Int32)), (.ref b), (.long (1 : Int64)), (.long mk0_0)])) rfl rfl (hb hby d3_43) _ k) ?_
      show Win p.tables e below _ (s₁.setTop (mkF m 44 #[.val (.ref a), .val (.ref b), .val (.long (0 : Int64)), .second, .val (.int (1 : Int32)), .val (.int (0 : Int32)), .val (.long mk0_0), .second] [(.int v1), (.long (1 : Int64)), (.long mk0_0)]))
      clear Ar_168 q_168 S_168 N_168 H_168 G_168 hi_168
      refine s_bipush (pc' := 46) (z := (64 : Int32)) X0.here hx (hb hby d3_44) rfl rfl ?_
      refine Win.go (fun _ k => iremM X0 hx rfl (hb hby d3_46) rfl (by decide) k) ?_
      show Win p.tables e below _ (s₁.setTop (mkF m 47 #[.val (.ref a), .val (.ref b), .val (.long (0 : Int64)), .second, .val (.int (1 : Int32)), .val (.int (0 : Int32)), .val (.long mk0_0), .second] [(.int (v1 % (64 : Int32))), (.long (1 : Int64)), (.long mk0_0)]))
      refine Win.go (fun _ k => XT.lshl X0.here hx rfl (hb hby d3_47) rfl k) ?_
      show Win p.tables e below _ (s₁.setTop (mkF m 48 #[.val (.ref a), .val (.ref b), .val (.long (0 : Int64)), .second, .val (.int (1 : Int32)), .val (.int (0 : Int32)), .val (.long mk0_0), .second] [(.long ((1 : Int64) <<< ((v1 % (64 : Int32)).toInt64 &&& 63))), (.long mk0_0)]))
      refine s_lor (pc' := 49) X0.here hx (hb hby d3_48) rfl ?_
      refine s_lstore (pc' := 51) (l' := #[.val (.ref a), .val (.ref b), .val (.long (0 : Int64)), .second, .val (.int (1 : Int32)), .val (.int (0 : Int32)), .val (.long (mk0_0 ||| ((1 : Int64) <<< ((v1 % (64 : Int32)).toInt64 &&& 63)))), .second]) X0.here hx (hb hby d3_49) rfl rfl ?_
      generalize hmk0_1 : (mk0_0 ||| ((1 : Int64) <<< ((v1 % (64 : Int32)).toInt64 &&& 63))) = mk0_1
      show Win p.tables e below _ (s₁.setTop (mkF m 51 #[.val (.ref a), .val (.ref b), .val (.long (0 : Int64)), .second, .val (.int (1 : Int32)), .val (.int (0 : Int32)), .val (.long mk0_1), .second] []))
      refine Win.go (fun _ k => XS.iinc X0.here hx rfl (hb hby d3_51) rfl (l' := #[.val (.ref a), .val (.ref b), .val (.long (0 : Int64)), .second, .val (.int (2 : Int32)), .val (.int (0 : Int32)), .val (.long mk0_1), .second]) rfl k) ?_
      show Win p.tables e below _ (s₁.setTop (mkF m 54 #[.val (.ref a), .val (.ref b), .val (.long (0 : Int64)), .second, .val (.int (2 : Int32)), .val (.int (0 : Int32)), .val (.long mk0_1), .second] []))
      refine s_goto (pc' := 18) X0.here hx (hb hby d3_54) (by decide) (by decide) ?_
      refine s_iload (pc' := 20) X0.here hx (hb hby d3_18) rfl rfl ?_
      refine s_aloadN (pc' := 21) X0.here hx (hb hby d3_20) rfl rfl rfl ?_
      obtain ⟨cl_169, Ar_169, q_169, S_169, N_169, H_169, G_169⟩ := id V_b
      refine Win.go (fun _ k => X0.arraylength hx (by rw [e0]; exact Ar_169.1) (State.isArrayOf_alike hZ.alike Ar_169.2.1) (g := (mkF m 21 #[.val (.ref a), .val (.ref b), .val (.long (0 : Int64)), .second, .val (.int (2 : Int32)), .val (.int (0 : Int32)), .val (.long mk0_1), .second] [(.ref b), (.int (2 : Int32))])) rfl rfl (hb hby d3_21) _ k) ?_
      rw [len_of S_169 N_169]
      clear Ar_169 q_169 S_169 N_169 H_169 G_169
      show Win p.tables e below _ (s₁.setTop (mkF m 22 #[.val (.ref a), .val (.ref b), .val (.long (0 : Int64)), .second, .val (.int (2 : Int32)), .val (.int (0 : Int32)), .val (.long mk0_1), .second] [(.int (4 : Int32)), (.int (2 : Int32))]))
      refine s_icmpNo (pc' := 25) X0.here hx (hb hby d3_22) rfl (tltI (x := (2 : Int32)) (y := (4 : Int32)) (by decide)).2.1 ?_
      refine s_aloadN (pc' := 26) X0.here hx (hb hby d3_25) rfl rfl rfl ?_
      refine s_iload (pc' := 28) X0.here hx (hb hby d3_26) rfl rfl ?_
      obtain ⟨cl_170, Ar_170, q_170, S_170, N_170, H_170, G_170⟩ := id V_b
      have hi_170 : ¬ ((2 : Int32) < 0 ∨ cl_170.slots.size ≤ ((2 : Int32)).toNatClampNeg) := inb_of S_170 ⟨by decide, by decide⟩
      refine Win.go (fun _ k => X0.iaload hx (j := (2 : Int32)) (v := (.int v2)) (by rw [e0]; exact Ar_170.1) (State.isArrayOf_alike hZ.alike Ar_170.2.1) Ar_170.2.2 hi_170 (H_170.at hi_170 rfl) (g := (mkF m 28 #[.val (.ref a), .val (.ref b), .val (.long (0 : Int64)), .second, .val (.int (2 : Int32)), .val (.int (0 : Int32)), .val (.long mk0_1), .second] [(.int (2 : Int32)), (.ref b)])) rfl rfl (hb hby d3_28) _ k) ?_
      show Win p.tables e below _ (s₁.setTop (mkF m 29 #[.val (.ref a), .val (.ref b), .val (.long (0 : Int64)), .second, .val (.int (2 : Int32)), .val (.int (0 : Int32)), .val (.long mk0_1), .second] [(.int v2)]))
      clear Ar_170 q_170 S_170 N_170 H_170 G_170 hi_170
      refine s_bipush (pc' := 31) (z := (64 : Int32)) X0.here hx (hb hby d3_29) rfl rfl ?_
      refine Win.go (fun _ k => XS.idiv X0.here hx rfl (hb hby d3_31) rfl (by decide) k) ?_
      show Win p.tables e below _ (s₁.setTop (mkF m 32 #[.val (.ref a), .val (.ref b), .val (.long (0 : Int64)), .second, .val (.int (2 : Int32)), .val (.int (0 : Int32)), .val (.long mk0_1), .second] [(.int (v2 / (64 : Int32)))]))
      refine s_iload (pc' := 34) X0.here hx (hb hby d3_32) rfl rfl ?_
      by_cases hc34_2 : ((v2 / (64 : Int32))).toInt = (0 : Int)
      · skip
        refine s_icmpNo (pc' := 37) X0.here hx (hb hby d3_34) rfl (teqI (x := (v2 / (64 : Int32))) (y := (0 : Int32)) hc34_2).2 ?_
        refine s_lload (pc' := 39) X0.here hx (hb hby d3_37) rfl rfl ?_
        refine s_lconst (pc' := 40) (z := (1 : Int64)) X0.here hx (hb hby d3_39) rfl rfl ?_
        refine s_aloadN (pc' := 41) X0.here hx (hb hby d3_40) rfl rfl rfl ?_
        refine s_iload (pc' := 43) X0.here hx (hb hby d3_41) rfl rfl ?_
        obtain ⟨cl_171, Ar_171, q_171, S_171, N_171, H_171, G_171⟩ := id V_b
        have hi_171 : ¬ ((2 : Int32) < 0 ∨ cl_171.slots.size ≤ ((2 : Int32)).toNatClampNeg) := inb_of S_171 ⟨by decide, by decide⟩
        refine Win.go (fun _ k => X0.iaload hx (j := (2 : Int32)) (v := (.int v2)) (by rw [e0]; exact Ar_171.1) (State.isArrayOf_alike hZ.alike Ar_171.2.1) Ar_171.2.2 hi_171 (H_171.at hi_171 rfl) (g := (mkF m 43 #[.val (.ref a), .val (.ref b), .val (.long (0 : Int64)), .second, .val (.int (2 : Int32)), .val (.int (0 : Int32)), .val (.long mk0_1), .second] [(.int (2 : Int32)), (.ref b), (.long (1 : Int64)), (.long mk0_1)])) rfl rfl (hb hby d3_43) _ k) ?_
        show Win p.tables e below _ (s₁.setTop (mkF m 44 #[.val (.ref a), .val (.ref b), .val (.long (0 : Int64)), .second, .val (.int (2 : Int32)), .val (.int (0 : Int32)), .val (.long mk0_1), .second] [(.int v2), (.long (1 : Int64)), (.long mk0_1)]))
        clear Ar_171 q_171 S_171 N_171 H_171 G_171 hi_171
        refine s_bipush (pc' := 46) (z := (64 : Int32)) X0.here hx (hb hby d3_44) rfl rfl ?_
        refine Win.go (fun _ k => iremM X0 hx rfl (hb hby d3_46) rfl (by decide) k) ?_
        show Win p.tables e below _ (s₁.setTop (mkF m 47 #[.val (.ref a), .val (.ref b), .val (.long (0 : Int64)), .second, .val (.int (2 : Int32)), .val (.int (0 : Int32)), .val (.long mk0_1), .second] [(.int (v2 % (64 : Int32))), (.long (1 : Int64)), (.long mk0_1)]))
        refine Win.go (fun _ k => XT.lshl X0.here hx rfl (hb hby d3_47) rfl k) ?_
        show Win p.tables e below _ (s₁.setTop (mkF m 48 #[.val (.ref a), .val (.ref b), .val (.long (0 : Int64)), .second, .val (.int (2 : Int32)), .val (.int (0 : Int32)), .val (.long mk0_1), .second] [(.long ((1 : Int64) <<< ((v2 % (64 : Int32)).toInt64 &&& 63))), (.long mk0_1)]))
        refine s_lor (pc' := 49) X0.here hx (hb hby d3_48) rfl ?_
        refine s_lstore (pc' := 51) (l' := #[.val (.ref a), .val (.ref b), .val (.long (0 : Int64)), .second, .val (.int (2 : Int32)), .val (.int (0 : Int32)), .val (.long (mk0_1 ||| ((1 : Int64) <<< ((v2 % (64 : Int32)).toInt64 &&& 63)))), .second]) X0.here hx (hb hby d3_49) rfl rfl ?_
        generalize hmk0_2 : (mk0_1 ||| ((1 : Int64) <<< ((v2 % (64 : Int32)).toInt64 &&& 63))) = mk0_2
        show Win p.tables e below _ (s₁.setTop (mkF m 51 #[.val (.ref a), .val (.ref b), .val (.long (0 : Int64)), .second, .val (.int (2 : Int32)), .val (.int (0 : Int32)), .val (.long mk0_2), .second] []))
        refine Win.go (fun _ k => XS.iinc X0.here hx rfl (hb hby d3_51) rfl (l' := #[.val (.ref a), .val (.ref b), .val (.long (0 : Int64)), .second, .val (.int (3 : Int32)), .val (.int (0 : Int32)), .val (.long mk0_2), .second]) rfl k) ?_
        show Win p.tables e below _ (s₁.setTop (mkF m 54 #[.val (.ref a), .val (.ref b), .val (.long (0 : Int64)), .second, .val (.int (3 : Int32)), .val (.int (0 : Int32)), .val (.long mk0_2), .second] []))
        refine s_goto (pc' := 18) X0.here hx (hb hby d3_54) (by decide) (by decide) ?_
        refine s_iload (pc' := 20) X0.here hx (hb hby d3_18) rfl rfl ?_
        refine s_aloadN (pc' := 21) X0.here hx (hb hby d3_20) rfl rfl rfl ?_
        obtain ⟨cl_172, Ar_172, q_172, S_172, N_172, H_172, G_172⟩ := id V_b
        refine Win.go (fun _ k => X0.arraylength hx (by rw [e0]; exact Ar_172.1) (State.isArrayOf_alike hZ.alike Ar_172.2.1) (g := (mkF m 21 #[.val (.ref a), .val (.ref b), .val (.long (0 : Int64)), .second, .val (.int (3 : Int32)), .val (.int (0 : Int32)), .val (.long mk0_2), .second] [(.ref b), (.int (3 : Int32))])) rfl rfl (hb hby d3_21) _ k) ?_
        rw [len_of S_172 N_172]
        clear Ar_172 q_172 S_172 N_172 H_172 G_172
        show Win p.tables e below _ (s₁.setTop (mkF m 22 #[.val (.ref a), .val (.ref b), .val (.long (0 : Int64)), .second, .val (.int (3 : Int32)), .val (.int (0 : Int32)), .val (.long mk0_2), .second] [(.int (4 : Int32)), (.int (3 : Int32))]))
        refine s_icmpNo (pc' := 25) X0.here hx (hb hby d3_22) rfl (tltI (x := (3 : Int32)) (y := (4 : Int32)) (by decide)).2.1 ?_
        refine s_aloadN (pc' := 26) X0.here hx (hb hby d3_25) rfl rfl rfl ?_
        refine s_iload (pc' := 28) X0.here hx (hb hby d3_26) rfl rfl ?_
        obtain ⟨cl_173, Ar_173, q_173, S_173, N_173, H_173, G_173⟩ := id V_b
        have hi_173 : ¬ ((3 : Int32) < 0 ∨ cl_173.slots.size ≤ ((3 : Int32)).toNatClampNeg) := inb_of S_173 ⟨by decide, by decide⟩
        refine Win.go (fun _ k => X0.iaload hx (j := (3 : Int32)) (v := (.int v3)) (by rw [e0]; exact Ar_173.1) (State.isArrayOf_alike hZ.alike Ar_173.2.1) Ar_173.2.2 hi_173 (H_173.at hi_173 rfl) (g := (mkF m 28 #[.val (.ref a), .val (.ref b), .val (.long (0 : Int64)), .second, .val (.int (3 : Int32)), .val (.int (0 : Int32)), .val (.long mk0_2), .second] [(.int (3 : Int32)), (.ref b)])) rfl rfl (hb hby d3_28) _ k) ?_
        show Win p.tables e below _ (s₁.setTop (mkF m 29 #[.val (.ref a), .val (.ref b), .val (.long (0 : Int64)), .second, .val (.int (3 : Int32)), .val (.int (0 : Int32)), .val (.long mk0_2), .second] [(.int v3)]))
        clear Ar_173 q_173 S_173 N_173 H_173 G_173 hi_173
        refine s_bipush (pc' := 31) (z := (64 : Int32)) X0.here hx (hb hby d3_29) rfl rfl ?_
        refine Win.go (fun _ k => XS.idiv X0.here hx rfl (hb hby d3_31) rfl (by decide) k) ?_
        show Win p.tables e below _ (s₁.setTop (mkF m 32 #[.val (.ref a), .val (.ref b), .val (.long (0 : Int64)), .second, .val (.int (3 : Int32)), .val (.int (0 : Int32)), .val (.long mk0_2), .second] [(.int (v3 / (64 : Int32)))]))
        refine s_iload (pc' := 34) X0.here hx (hb hby d3_32) rfl rfl ?_
        by_cases hc34_3 : ((v3 / (64 : Int32))).toInt = (0 : Int)
        · skip
          refine s_icmpNo (pc' := 37) X0.here hx (hb hby d3_34) rfl (teqI (x := (v3 / (64 : Int32))) (y := (0 : Int32)) hc34_3).2 ?_
          refine s_lload (pc' := 39) X0.here hx (hb hby d3_37) rfl rfl ?_
          refine s_lconst (pc' := 40) (z := (1 : Int64)) X0.here hx (hb hby d3_39) rfl rfl ?_
          refine s_aloadN (pc' := 41) X0.here hx (hb hby d3_40) rfl rfl rfl ?_
          refine s_iload (pc' := 43) X0.here hx (hb hby d3_41) rfl rfl ?_
          obtain ⟨cl_174, Ar_174, q_174, S_174, N_174, H_174, G_174⟩ := id V_b
          have hi_174 : ¬ ((3 : Int32) < 0 ∨ cl_174.slots.size ≤ ((3 : Int32)).toNatClampNeg) := inb_of S_174 ⟨by decide, by decide⟩
          refine Win.go (fun _ k => X0.iaload hx (j := (3 : Int32)) (v := (.int v3)) (by rw [e0]; exact Ar_174.1) (State.isArrayOf_alike hZ.alike Ar_174.2.1) Ar_174.2.2 hi_174 (H_174.at hi_174 rfl) (g := (mkF m 43 #[.val (.ref a), .val (.ref b), .val (.long (0 : Int64)), .second, .val (.int (3 : Int32)), .val (.int (0 : Int32)), .val (.long mk0_2), .second] [(.int (3 : Int32)), (.ref b), (.long (1 : Int64)), (.long mk0_2)])) rfl rfl (hb hby d3_43) _ k) ?_
          show Win p.tables e below _ (s₁.setTop (mkF m 44 #[.val (.ref a), .val (.ref b), .val (.long (0 : Int64)), .second, .val (.int (3 : Int32)), .val (.int (0 : Int32)), .val (.long mk0_2), .second] [(.int v3), (.long (1 : Int64)), (.long mk0_2)]))
          clear Ar_174 q_174 S_174 N_174 H_174 G_174 hi_174
          refine s_bipush (pc' := 46) (z := (64 : Int32)) X0.here hx (hb hby d3_44) rfl rfl ?_
          refine Win.go (fun _ k => iremM X0 hx rfl (hb hby d3_46) rfl (by decide) k) ?_
          show Win p.tables e below _ (s₁.setTop (mkF m 47 #[.val (.ref a), .val (.ref b), .val (.long (0 : Int64)), .second, .val (.int (3 : Int32)), .val (.int (0 : Int32)), .val (.long mk0_2), .second] [(.int (v3 % (64 : Int32))), (.long (1 : Int64)), (.long mk0_2)]))
          refine Win.go (fun _ k => XT.lshl X0.here hx rfl (hb hby d3_47) rfl k) ?_
          show Win p.tables e below _ (s₁.setTop (mkF m 48 #[.val (.ref a), .val (.ref b), .val (.long (0 : Int64)), .second, .val (.int (3 : Int32)), .val (.int (0 : Int32)), .val (.long mk0_2), .second] [(.long ((1 : Int64) <<< ((v3 % (64 : Int32)).toInt64 &&& 63))), (.long mk0_2)]))
          refine s_lor (pc' := 49) X0.here hx (hb hby d3_48) rfl ?_
          refine s_lstore (pc' := 51) (l' := #[.val (.ref a), .val (.ref b), .val (.long (0 : Int64)), .second, .val (.int (3 : Int32)), .val (.int (0 : Int32)), .val (.long (mk0_2 ||| ((1 : Int64) <<< ((v3 % (64 : Int32)).toInt64 &&& 63)))), .second]) X0.here hx (hb hby d3_49) rfl rfl ?_
          generalize hmk0_3 : (mk0_2 ||| ((1 : Int64) <<< ((v3 % (64 : Int32)).toInt64 &&& 63))) = mk0_3
          show Win p.tables e below _ (s₁.setTop (mkF m 51 #[.val (.ref a), .val (.ref b), .val (.long (0 : Int64)), .second, .val (.int (3 : Int32)), .val (.int (0 : Int32)), .val (.long mk0_3), .second] []))
          refine Win.go (fun _ k => XS.iinc X0.here hx rfl (hb hby d3_51) rfl (l' := #[.val (.ref a), .val (.ref b), .val (.long (0 : Int64)), .second, .val (.int (4 : Int32)), .val (.int (0 : Int32)), .val (.long mk0_3), .second]) rfl k) ?_
          show Win p.tables e below _ (s₁.setTop (mkF m 54 #[.val (.ref a), .val (.ref b), .val (.long (0 : Int64)), .second, .val (.int (4 : Int32)), .val (.int (0 : Int32)), .val (.long mk0_3), .second] []))
          refine s_goto (pc' := 18) X0.here hx (hb hby d3_54) (by decide) (by decide) ?_
          refine s_iload (pc' := 20) X0.here hx (hb hby d3_18) rfl rfl ?_
          refine s_aloadN (pc' := 21) X0.here hx (hb hby d3_20) rfl rfl rfl ?_
          obtain ⟨cl_175, Ar_175, q_175, S_175, N_175, H_175, G_175⟩ := id V_b
          refine Win.go (fun _ k => X0.arraylength hx (by rw [e0]; exact Ar_175.1) (State.isArrayOf_alike hZ.alike Ar_175.2.1) (g := (mkF m 21 #[.val (.ref a), .val (.ref b), .val (.long (0 : Int64)), .second, .val (.int (4 : Int32)), .val (.int (0 : Int32)), .val (.long mk0_3), .second] [(.ref b), (.int (4 : Int32))])) rfl rfl (hb hby d3_21) _ k) ?_
          rw [len_of S_175 N_175]
          clear Ar_175 q_175 S_175 N_175 H_175 G_175
          show Win p.tables e below _ (s₁.setTop (mkF m 22 #[.val (.ref a), .val (.ref b), .val (.long (0 : Int64)), .second, .val (.int (4 : Int32)), .val (.int (0 : Int32)), .val (.long mk0_3), .second] [(.int (4 : Int32)), (.int (4 : Int32))]))
          refine s_icmpYes (pc' := 57) X0.here hx (hb hby d3_22) (fltI (x := (4 : Int32)) (y := (4 : Int32)) (by decide)).2.1 (by decide) (by decide) ?_
          refine s_lloadN (pc' := 58) X0.here hx (hb hby d3_57) rfl rfl ?_
          refine s_aloadN (pc' := 59) X0.here hx (hb hby d3_58) rfl rfl rfl ?_
          refine s_iload (pc' := 61) X0.here hx (hb hby d3_59) rfl rfl ?_
          obtain ⟨cl_176, Ar_176, q_176, S_176, N_176, H_176, G_176⟩ := id V_a
          have hi_176 : ¬ ((0 : Int32) < 0 ∨ cl_176.slots.size ≤ ((0 : Int32)).toNatClampNeg) := inb_of S_176 ⟨by decide, by decide⟩
          refine Win.go (fun _ k => X0.laload hx (j := (0 : Int32)) (v := (.long u0)) (by rw [e0]; exact Ar_176.1) (State.isArrayOf_alike hZ.alike Ar_176.2.1) Ar_176.2.2 hi_176 (H_176.at hi_176 rfl) (g := (mkF m 61 #[.val (.ref a), .val (.ref b), .val (.long (0 : Int64)), .second, .val (.int (4 : Int32)), .val (.int (0 : Int32)), .val (.long mk0_3), .second] [(.int (0 : Int32)), (.ref a), (.long (0 : Int64))])) rfl rfl (hb hby d3_61) _ k) ?_
          show Win p.tables e below _ (s₁.setTop (mkF m 62 #[.val (.ref a), .val (.ref b), .val (.long (0 : Int64)), .second, .val (.int (4 : Int32)), .val (.int (0 : Int32)), .val (.long mk0_3), .second] [(.long u0), (.long (0 : Int64))]))
          clear Ar_176 q_176 S_176 N_176 H_176 G_176 hi_176
          refine s_lload (pc' := 64) X0.here hx (hb hby d3_62) rfl rfl ?_
          refine Win.go (fun _ k => X0.ldc2Long hx hown (mvT hZ (hw _ (List.mem_of_getElem? (i := 14) rfl))) (g := (mkF m 64 #[.val (.ref a), .val (.ref b), .val (.long (0 : Int64)), .second, .val (.int (4 : Int32)), .val (.int (0 : Int32)), .val (.long mk0_3), .second] [(.long mk0_3), (.long u0), (.long (0 : Int64))])) rfl (hb hby d3_64) _ k) ?_
          show Win p.tables e below _ (s₁.setTop (mkF m 67 #[.val (.ref a), .val (.ref b), .val (.long (0 : Int64)), .second, .val (.int (4 : Int32)), .val (.int (0 : Int32)), .val (.long mk0_3), .second] [(.long (-1 : Int64)), (.long mk0_3), (.long u0), (.long (0 : Int64))]))
          refine s_lxor (pc' := 68) X0.here hx (hb hby d3_67) rfl ?_
          refine s_land (pc' := 69) X0.here hx (hb hby d3_68) rfl ?_
          refine s_lor (pc' := 70) X0.here hx (hb hby d3_69) rfl ?_
          refine s_lstoreN (pc' := 71) (l' := #[.val (.ref a), .val (.ref b), .val (.long ((0 : Int64) ||| (u0 &&& (mk0_3 ^^^ (-1 : Int64))))), .second, .val (.int (4 : Int32)), .val (.int (0 : Int32)), .val (.long mk0_3), .second]) X0.here hx (hb hby d3_70) rfl rfl ?_
          generalize ht0 : ((0 : Int64) ||| (u0 &&& (mk0_3 ^^^ (-1 : Int64)))) = t0
          show Win p.tables e below _ (s₁.setTop (mkF m 71 #[.val (.ref a), .val (.ref b), .val (.long t0), .second, .val (.int (4 : Int32)), .val (.int (0 : Int32)), .val (.long mk0_3), .second] []))
          refine s_aloadN (pc' := 72) X0.here hx (hb hby d3_71) rfl rfl rfl ?_
          refine s_iload (pc' := 74) X0.here hx (hb hby d3_72) rfl rfl ?_
          refine Win.go (fun _ k => XT.dup2 X0.here hx rfl (hb hby d3_74) rfl rfl rfl k) ?_
          show Win p.tables e below _ (s₁.setTop (mkF m 75 #[.val (.ref a), .val (.ref b), .val (.long t0), .second, .val (.int (4 : Int32)), .val (.int (0 : Int32)), .val (.long mk0_3), .second] [(.int (0 : Int32)), (.ref a), (.int (0 : Int32)), (.ref a)]))
          obtain ⟨cl_177, Ar_177, q_177, S_177, N_177, H_177, G_177⟩ := id V_a
          have hi_177 : ¬ ((0 : Int32) < 0 ∨ cl_177.slots.size ≤ ((0 : Int32)).toNatClampNeg) := inb_of S_177 ⟨by decide, by decide⟩
          refine Win.go (fun _ k => X0.laload hx (j := (0 : Int32)) (v := (.long u0)) (by rw [e0]; exact Ar_177.1) (State.isArrayOf_alike hZ.alike Ar_177.2.1) Ar_177.2.2 hi_177 (H_177.at hi_177 rfl) (g := (mkF m 75 #[.val (.ref a), .val (.ref b), .val (.long t0), .second, .val (.int (4 : Int32)), .val (.int (0 : Int32)), .val (.long mk0_3), .second] [(.int (0 : Int32)), (.ref a), (.int (0 : Int32)), (.ref a)])) rfl rfl (hb hby d3_75) _ k) ?_
          show Win p.tables e below _ (s₁.setTop (mkF m 76 #[.val (.ref a), .val (.ref b), .val (.long t0), .second, .val (.int (4 : Int32)), .val (.int (0 : Int32)), .val (.long mk0_3), .second] [(.long u0), (.int (0 : Int32)), (.ref a)]))
          clear Ar_177 q_177 S_177 N_177 H_177 G_177 hi_177
          refine s_lload (pc' := 78) X0.here hx (hb hby d3_76) rfl rfl ?_
          refine s_land (pc' := 79) X0.here hx (hb hby d3_78) rfl ?_
          obtain ⟨cl_178, Ar_178, q_178, S_178, N_178, H_178, G_178⟩ := V_a
          obtain ⟨T_178, h_178, X_178, e_178, W_178, st_178⟩ := stJ X0 hx hZ e0 Ar_178 (j := (0 : Int32)) (inb_of S_178 ⟨by decide, by decide⟩) (g := (mkF m 79 #[.val (.ref a), .val (.ref b), .val (.long t0), .second, .val (.int (4 : Int32)), .val (.int (0 : Int32)), .val (.long mk0_3), .second] [(.long (u0 &&& mk0_3)), (.int (0 : Int32)), (.ref a)])) rfl rfl (hb hby d3_79)
          have V_178 := Arv.set Ar_178 q_178 S_178 N_178 H_178 G_178 rfl W_178 0 rfl (Nat.le_of_ble_eq_true rfl)
          replace V_b := V_b.other W_178 ne_b_a
          replace lt_a := Nat.lt_of_lt_of_le lt_a (Keep.of_wr W_178).1
          replace lt_b := Nat.lt_of_lt_of_le lt_b (Keep.of_wr W_178).1
          replace Zs := Nat.le_trans Zs (Keep.of_wr W_178).1
          replace Kp := Kp.wr W_178 (Or.inl (by simp))
          replace V_a : Arv Z h_178 a ka .long (2 : Int32) [(.long (u0 &&& mk0_3)), (.long u1)] (.long (0 : Int64)) := V_178
          replace Nf := Fr.snoc X_178 Nf g_a
          refine Win.go st_178 ?_
          clear st_178 W_178 V_178 Ar_178 q_178 S_178 N_178 H_178 G_178 X0 e0
          show Win p.tables e below _ (T_178.setTop (mkF m 80 #[.val (.ref a), .val (.ref b), .val (.long t0), .second, .val (.int (4 : Int32)), .val (.int (0 : Int32)), .val (.long mk0_3), .second] []))
          refine Win.go (fun _ k => XS.iinc X_178.here hx rfl (hb hby d3_80) rfl (l' := #[.val (.ref a), .val (.ref b), .val (.long t0), .second, .val (.int (4 : Int32)), .val (.int (1 : Int32)), .val (.long mk0_3), .second]) rfl k) ?_
          show Win p.tables e below _ (T_178.setTop (mkF m 83 #[.val (.ref a), .val (.ref b), .val (.long t0), .second, .val (.int (4 : Int32)), .val (.int (1 : Int32)), .val (.long mk0_3), .second] []))
          refine s_goto (pc' := 8) X_178.here hx (hb hby d3_83) (by decide) (by decide) ?_
          refine s_iload (pc' := 10) X_178.here hx (hb hby d3_8) rfl rfl ?_
          refine s_aloadN (pc' := 11) X_178.here hx (hb hby d3_10) rfl rfl rfl ?_
          obtain ⟨cl_179, Ar_179, q_179, S_179, N_179, H_179, G_179⟩ := id V_a
          refine Win.go (fun _ k => X_178.arraylength hx (by rw [e_178]; exact Ar_179.1) (State.isArrayOf_alike hZ.alike Ar_179.2.1) (g := (mkF m 11 #[.val (.ref a), .val (.ref b), .val (.long t0), .second, .val (.int (4 : Int32)), .val (.int (1 : Int32)), .val (.long mk0_3), .second] [(.ref a), (.int (1 : Int32))])) rfl rfl (hb hby d3_11) _ k) ?_
          rw [len_of S_179 N_179]
          clear Ar_179 q_179 S_179 N_179 H_179 G_179
          show Win p.tables e below _ (T_178.setTop (mkF m 12 #[.val (.ref a), .val (.ref b), .val (.long t0), .second, .val (.int (4 : Int32)), .val (.int (1 : Int32)), .val (.long mk0_3), .second] [(.int (2 : Int32)), (.int (1 : Int32))]))
          refine s_icmpNo (pc' := 15) X_178.here hx (hb hby d3_12) rfl (tltI (x := (1 : Int32)) (y := (2 : Int32)) (by decide)).2.1 ?_
          refine s_lconst (pc' := 16) (z := (0 : Int64)) X_178.here hx (hb hby d3_15) rfl rfl ?_
          refine s_lstore (pc' := 18) (l' := #[.val (.ref a), .val (.ref b), .val (.long t0), .second, .val (.int (4 : Int32)), .val (.int (1 : Int32)), .val (.long (0 : Int64)), .second]) X_178.here hx (hb hby d3_16) rfl rfl ?_
          refine s_iload (pc' := 20) X_178.here hx (hb hby d3_18) rfl rfl ?_
          refine s_aloadN (pc' := 21) X_178.here hx (hb hby d3_20) rfl rfl rfl ?_
          obtain ⟨cl_180, Ar_180, q_180, S_180, N_180, H_180, G_180⟩ := id V_b
          refine Win.go (fun _ k => X_178.arraylength hx (by rw [e_178]; exact Ar_180.1) (State.isArrayOf_alike hZ.alike Ar_180.2.1) (g := (mkF m 21 #[.val (.ref a), .val (.ref b), .val (.long t0), .second, .val (.int (4 : Int32)), .val (.int (1 : Int32)), .val (.long (0 : Int64)), .second] [(.ref b), (.int (4 : Int32))])) rfl rfl (hb hby d3_21) _ k) ?_
          rw [len_of S_180 N_180]
          clear Ar_180 q_180 S_180 N_180 H_180 G_180
          show Win p.tables e below _ (T_178.setTop (mkF m 22 #[.val (.ref a), .val (.ref b), .val (.long t0), .second, .val (.int (4 : Int32)), .val (.int (1 : Int32)), .val (.long (0 : Int64)), .second] [(.int (4 : Int32)), (.int (4 : Int32))]))
          refine s_icmpYes (pc' := 57) X_178.here hx (hb hby d3_22) (fltI (x := (4 : Int32)) (y := (4 : Int32)) (by decide)).2.1 (by decide) (by decide) ?_
          refine s_lloadN (pc' := 58) X_178.here hx (hb hby d3_57) rfl rfl ?_
          refine s_aloadN (pc' := 59) X_178.here hx (hb hby d3_58) rfl rfl rfl ?_
          refine s_iload (pc' := 61) X_178.here hx (hb hby d3_59) rfl rfl ?_
          obtain ⟨cl_181, Ar_181, q_181, S_181, N_181, H_181, G_181⟩ := id V_a
          have hi_181 : ¬ ((1 : Int32) < 0 ∨ cl_181.slots.size ≤ ((1 : Int32)).toNatClampNeg) := inb_of S_181 ⟨by decide, by decide⟩
          refine Win.go (fun _ k => X_178.laload hx (j := (1 : Int32)) (v := (.long u1)) (by rw [e_178]; exact Ar_181.1) (State.isArrayOf_alike hZ.alike Ar_181.2.1) Ar_181.2.2 hi_181 (H_181.at hi_181 rfl) (g := (mkF m 61 #[.val (.ref a), .val (.ref b), .val (.long t0), .second, .val (.int (4 : Int32)), .val (.int (1 : Int32)), .val (.long (0 : Int64)), .second] [(.int (1 : Int32)), (.ref a), (.long t0)])) rfl rfl (hb hby d3_61) _ k) ?_
          show Win p.tables e below _ (T_178.setTop (mkF m 62 #[.val (.ref a), .val (.ref b), .val (.long t0), .second, .val (.int (4 : Int32)), .val (.int (1 : Int32)), .val (.long (0 : Int64)), .second] [(.long u1), (.long t0)]))
          clear Ar_181 q_181 S_181 N_181 H_181 G_181 hi_181
          refine s_lload (pc' := 64) X_178.here hx (hb hby d3_62) rfl rfl ?_
          refine Win.go (fun _ k => X_178.ldc2Long hx hown (mvT hZ (hw _ (List.mem_of_getElem? (i := 14) rfl))) (g := (mkF m 64 #[.val (.ref a), .val (.ref b), .val (.long t0), .second, .val (.int (4 : Int32)), .val (.int (1 : Int32)), .val (.long (0 : Int64)), .second] [(.long (0 : Int64)), (.long u1), (.long t0)])) rfl (hb hby d3_64) _ k) ?_
          show Win p.tables e below _ (T_178.setTop (mkF m 67 #[.val (.ref a), .val (.ref b), .val (.long t0), .second, .val (.int (4 : Int32)), .val (.int (1 : Int32)), .val (.long (0 : Int64)), .second] [(.long (-1 : Int64)), (.long (0 : Int64)), (.long u1), (.long t0)]))
          refine Win.go (fun _ k => XS.lxor X_178.here hx rfl (hb hby d3_67) rfl k) ?_
          show Win p.tables e below _ (T_178.setTop (mkF m 68 #[.val (.ref a), .val (.ref b), .val (.long t0), .second, .val (.int (4 : Int32)), .val (.int (1 : Int32)), .val (.long (0 : Int64)), .second] [(.long (-1 : Int64)), (.long u1), (.long t0)]))
          refine s_land (pc' := 69) X_178.here hx (hb hby d3_68) rfl ?_
          refine s_lor (pc' := 70) X_178.here hx (hb hby d3_69) rfl ?_
          refine s_lstoreN (pc' := 71) (l' := #[.val (.ref a), .val (.ref b), .val (.long (t0 ||| (u1 &&& (-1 : Int64)))), .second, .val (.int (4 : Int32)), .val (.int (1 : Int32)), .val (.long (0 : Int64)), .second]) X_178.here hx (hb hby d3_70) rfl rfl ?_
          generalize ht1 : (t0 ||| (u1 &&& (-1 : Int64))) = t1
          show Win p.tables e below _ (T_178.setTop (mkF m 71 #[.val (.ref a), .val (.ref b), .val (.long t1), .second, .val (.int (4 : Int32)), .val (.int (1 : Int32)), .val (.long (0 : Int64)), .second] []))
          refine s_aloadN (pc' := 72) X_178.here hx (hb hby d3_71) rfl rfl rfl ?_
          refine s_iload (pc' := 74) X_178.here hx (hb hby d3_72) rfl rfl ?_
          refine Win.go (fun _ k => XT.dup2 X_178.here hx rfl (hb hby d3_74) rfl rfl rfl k) ?_
          show Win p.tables e below _ (T_178.setTop (mkF m 75 #[.val (.ref a), .val (.ref b), .val (.long t1), .second, .val (.int (4 : Int32)), .val (.int (1 : Int32)), .val (.long (0 : Int64)), .second] [(.int (1 : Int32)), (.ref a), (.int (1 : Int32)), (.ref a)]))
          obtain ⟨cl_182, Ar_182, q_182, S_182, N_182, H_182, G_182⟩ := id V_a
          have hi_182 : ¬ ((1 : Int32) < 0 ∨ cl_182.slots.size ≤ ((1 : Int32)).toNatClampNeg) := inb_of S_182 ⟨by decide, by decide⟩
          refine Win.go (fun _ k => X_178.laload hx (j := (1 : Int32)) (v := (.long u1)) (by rw [e_178]; exact Ar_182.1) (State.isArrayOf_alike hZ.alike Ar_182.2.1) Ar_182.2.2 hi_182 (H_182.at hi_182 rfl) (g := (mkF m 75 #[.val (.ref a), .val (.ref b), .val (.long t1), .second, .val (.int (4 : Int32)), .val (.int (1 : Int32)), .val (.long (0 : Int64)), .second] [(.int (1 : Int32)), (.ref a), (.int (1 : Int32)), (.ref a)])) rfl rfl (hb hby d3_75) _ k) ?_
          show Win p.tables e below _ (T_178.setTop (mkF m 76 #[.val (.ref a), .val (.ref b), .val (.long t1), .second, .val (.int (4 : Int32)), .val (.int (1 : Int32)), .val (.long (0 : Int64)), .second] [(.long u1), (.int (1 : Int32)), (.ref a)]))
          clear Ar_182 q_182 S_182 N_182 H_182 G_182 hi_182
          refine s_lload (pc' := 78) X_178.here hx (hb hby d3_76) rfl rfl ?_
          refine s_land (pc' := 79) X_178.here hx (hb hby d3_78) rfl ?_
          obtain ⟨cl_183, Ar_183, q_183, S_183, N_183, H_183, G_183⟩ := V_a
          obtain ⟨T_183, h_183, X_183, e_183, W_183, st_183⟩ := stJ X_178 hx hZ e_178 Ar_183 (j := (1 : Int32)) (inb_of S_183 ⟨by decide, by decide⟩) (g := (mkF m 79 #[.val (.ref a), .val (.ref b), .val (.long t1), .second, .val (.int (4 : Int32)), .val (.int (1 : Int32)), .val (.long (0 : Int64)), .second] [(.long (u1 &&& (0 : Int64))), (.int (1 : Int32)), (.ref a)])) rfl rfl (hb hby d3_79)
          have V_183 := Arv.set Ar_183 q_183 S_183 N_183 H_183 G_183 rfl W_183 1 rfl (Nat.le_of_ble_eq_true rfl)
          replace V_b := V_b.other W_183 ne_b_a
          replace lt_a := Nat.lt_of_lt_of_le lt_a (Keep.of_wr W_183).1
          replace lt_b := Nat.lt_of_lt_of_le lt_b (Keep.of_wr W_183).1
          replace Zs := Nat.le_trans Zs (Keep.of_wr W_183).1
          replace Kp := Kp.wr W_183 (Or.inl (by simp))
          replace V_a : Arv Z h_183 a ka .long (2 : Int32) [(.long (u0 &&& mk0_3)), (.long (u1 &&& (0 : Int64)))] (.long (0 : Int64)) := V_183
          replace Nf := Fr.snoc X_183 Nf g_a
          refine Win.go st_183 ?_
          clear st_183 W_183 V_183 Ar_183 q_183 S_183 N_183 H_183 G_183 X_178 e_178
          show Win p.tables e below _ (T_183.setTop (mkF m 80 #[.val (.ref a), .val (.ref b), .val (.long t1), .second, .val (.int (4 : Int32)), .val (.int (1 : Int32)), .val (.long (0 : Int64)), .second] []))
          refine Win.go (fun _ k => XS.iinc X_183.here hx rfl (hb hby d3_80) rfl (l' := #[.val (.ref a), .val (.ref b), .val (.long t1), .second, .val (.int (4 : Int32)), .val (.int (2 : Int32)), .val (.long (0 : Int64)), .second]) rfl k) ?_
          show Win p.tables e below _ (T_183.setTop (mkF m 83 #[.val (.ref a), .val (.ref b), .val (.long t1), .second, .val (.int (4 : Int32)), .val (.int (2 : Int32)), .val (.long (0 : Int64)), .second] []))
          refine s_goto (pc' := 8) X_183.here hx (hb hby d3_83) (by decide) (by decide) ?_
          refine s_iload (pc' := 10) X_183.here hx (hb hby d3_8) rfl rfl ?_
          refine s_aloadN (pc' := 11) X_183.here hx (hb hby d3_10) rfl rfl rfl ?_
          obtain ⟨cl_184, Ar_184, q_184, S_184, N_184, H_184, G_184⟩ := id V_a
          refine Win.go (fun _ k => X_183.arraylength hx (by rw [e_183]; exact Ar_184.1) (State.isArrayOf_alike hZ.alike Ar_184.2.1) (g := (mkF m 11 #[.val (.ref a), .val (.ref b), .val (.long t1), .second, .val (.int (4 : Int32)), .val (.int (2 : Int32)), .val (.long (0 : Int64)), .second] [(.ref a), (.int (2 : Int32))])) rfl rfl (hb hby d3_11) _ k) ?_
          rw [len_of S_184 N_184]
          clear Ar_184 q_184 S_184 N_184 H_184 G_184
          show Win p.tables e below _ (T_183.setTop (mkF m 12 #[.val (.ref a), .val (.ref b), .val (.long t1), .second, .val (.int (4 : Int32)), .val (.int (2 : Int32)), .val (.long (0 : Int64)), .second] [(.int (2 : Int32)), (.int (2 : Int32))]))
          refine s_icmpYes (pc' := 86) X_183.here hx (hb hby d3_12) (fltI (x := (2 : Int32)) (y := (2 : Int32)) (by decide)).2.1 (by decide) (by decide) ?_
          refine s_lloadN (pc' := 87) X_183.here hx (hb hby d3_86) rfl rfl ?_
          refine s_lconst (pc' := 88) (z := (0 : Int64)) X_183.here hx (hb hby d3_87) rfl rfl ?_
          refine s_lcmp (pc' := 89) X_183.here hx (hb hby d3_88) rfl ?_
          by_cases hc89_4 : (t1).toInt = (0 : Int)
          · skip
            refine s_ifYes (pc' := 96) X_183.here hx (hb hby d3_89) (teqL (x := t1) (y := (0 : Int64)) hc89_4).1 (by decide) (by decide) ?_
            refine s_iconst (pc' := 97) (z := (0 : Int32)) X_183.here hx (hb hby d3_96) rfl rfl ?_
            refine winN X_183 hx hlk e_183 (t := .boolean) Bd.returns (by simp) (hb hby d3_97) (by decide) (by decide) (z' := (0 : Int32)) rfl ?_
            have e0 := own_lo (v := v0) (by omega) (by omega)
            have e1 := own_lo (v := v1) (by omega) (by omega)
            have e2 := own_lo (v := v2) (by omega) (by omega)
            have e3 := own_lo (v := v3) (by omega) (by omega)
            have mA : ((((bit0 v0) ||| (bit0 v1)) ||| (bit0 v2)) ||| (bit0 v3)) = mk0_3 := by rw [← hmk0_3, ← hmk0_2, ← hmk0_1, ← hmk0_0]; simp only [e0.1, e0.2, e1.1, e1.2, e2.1, e2.2, e3.1, e3.2, Int64.or_zero, Int64.zero_or]
            have mB : ((((bit1 v0) ||| (bit1 v1)) ||| (bit1 v2)) ||| (bit1 v3)) = (0 : Int64) := by simp only [e0.1, e0.2, e1.1, e1.2, e2.1, e2.2, e3.1, e3.2, Int64.or_zero, Int64.zero_or]
            have tt : (((0 : Int64) ||| (u0 &&& (((((bit0 v0) ||| (bit0 v1)) ||| (bit0 v2)) ||| (bit0 v3)) ^^^ (-1 : Int64)))) ||| (u1 &&& (((((bit1 v0) ||| (bit1 v1)) ||| (bit1 v2)) ||| (bit1 v3)) ^^^ (-1 : Int64)))) = t1 := by rw [mA, mB, show ((0 : Int64) ^^^ (-1 : Int64)) = -1 from by decide, ht0, ht1]
            refine ⟨Nf, Kp, by rw [mA, mB]; exact V_a, _, rfl, Or.inr ⟨rfl, ?_⟩⟩
            rw [tt]
            exact fun q => q hc89_4
          · skip
            refine s_ifNo (pc' := 92) X_183.here hx (hb hby d3_89) rfl (feqL (x := t1) (y := (0 : Int64)) hc89_4).1 ?_
            refine s_iconst (pc' := 93) (z := (1 : Int32)) X_183.here hx (hb hby d3_92) rfl rfl ?_
            refine s_goto (pc' := 97) X_183.here hx (hb hby d3_93) (by decide) (by decide) ?_
            refine winN X_183 hx hlk e_183 (t := .boolean) Bd.returns (by simp) (hb hby d3_97) (by decide) (by decide) (z' := (1 : Int32)) rfl ?_
            have e0 := own_lo (v := v0) (by omega) (by omega)
            have e1 := own_lo (v := v1) (by omega) (by omega)
            have e2 := own_lo (v := v2) (by omega) (by omega)
            have e3 := own_lo (v := v3) (by omega) (by omega)
            have mA : ((((bit0 v0) ||| (bit0 v1)) ||| (bit0 v2)) ||| (bit0 v3)) = mk0_3 := by rw [← hmk0_3, ← hmk0_2, ← hmk0_1, ← hmk0_0]; simp only [e0.1, e0.2, e1.1, e1.2, e2.1, e2.2, e3.1, e3.2, Int64.or_zero, Int64.zero_or]
            have mB : ((((bit1 v0) ||| (bit1 v1)) ||| (bit1 v2)) ||| (bit1 v3)) = (0 : Int64) := by simp only [e0.1, e0.2, e1.1, e1.2, e2.1, e2.2, e3.1, e3.2, Int64.or_zero, Int64.zero_or]
            have tt : (((0 : Int64) ||| (u0 &&& (((((bit0 v0) ||| (bit0 v1)) ||| (bit0 v2)) ||| (bit0 v3)) ^^^ (-1 : Int64)))) ||| (u1 &&& (((((bit1 v0) ||| (bit1 v1)) ||| (bit1 v2)) ||| (bit1 v3)) ^^^ (-1 : Int64)))) = t1 := by rw [mA, mB, show ((0 : Int64) ^^^ (-1 : Int64)) = -1 from by decide, ht0, ht1]
            refine ⟨Nf, Kp, by rw [mA, mB]; exact V_a, _, rfl, Or.inl ⟨rfl, ?_⟩⟩
            rw [tt]
            exact hc89_4
        · skip
          refine s_icmpYes (pc' := 57) X0.here hx (hb hby d3_34) (feqI (x := (v3 / (64 : Int32))) (y := (0 : Int32)) hc34_3).2 (by decide) (by decide) ?_
          refine s_lloadN (pc' := 58) X0.here hx (hb hby d3_57) rfl rfl ?_
          refine s_aloadN (pc' := 59) X0.here hx (hb hby d3_58) rfl rfl rfl ?_
          refine s_iload (pc' := 61) X0.here hx (hb hby d3_59) rfl rfl ?_
          obtain ⟨cl_185, Ar_185, q_185, S_185, N_185, H_185, G_185⟩ := id V_a
          have hi_185 : ¬ ((0 : Int32) < 0 ∨ cl_185.slots.size ≤ ((0 : Int32)).toNatClampNeg) := inb_of S_185 ⟨by decide, by decide⟩
          refine Win.go (fun _ k => X0.laload hx (j := (0 : Int32)) (v := (.long u0)) (by rw [e0]; exact Ar_185.1) (State.isArrayOf_alike hZ.alike Ar_185.2.1) Ar_185.2.2 hi_185 (H_185.at hi_185 rfl) (g := (mkF m 61 #[.val (.ref a), .val (.ref b), .val (.long (0 : Int64)), .second, .val (.int (3 : Int32)), .val (.int (0 : Int32)), .val (.long mk0_2), .second] [(.int (0 : Int32)), (.ref a), (.long (0 : Int64))])) rfl rfl (hb hby d3_61) _ k) ?_
          show Win p.tables e below _ (s₁.setTop (mkF m 62 #[.val (.ref a), .val (.ref b), .val (.long (0 : Int64)), .second, .val (.int (3 : Int32)), .val (.int (0 : Int32)), .val (.long mk0_2), .second] [(.long u0), (.long (0 : Int64))]))
          clear Ar_185 q_185 S_185 N_185 H_185 G_185 hi_185
          refine s_lload (pc' := 64) X0.here hx (hb hby d3_62) rfl rfl ?_
          refine Win.go (fun _ k => X0.ldc2Long hx hown (mvT hZ (hw _ (List.mem_of_getElem? (i := 14) rfl))) (g := (mkF m 64 #[.val (.ref a), .val (.ref b), .val (.long (0 : Int64)), .second, .val (.int (3 : Int32)), .val (.int (0 : Int32)), .val (.long mk0_2), .second] [(.long mk0_2), (.long u0), (.long (0 : Int64))])) rfl (hb hby d3_64) _ k) ?_
          show Win p.tables e below _ (s₁.setTop (mkF m 67 #[.val (.ref a), .val (.ref b), .val (.long (0 : Int64)), .second, .val (.int (3 : Int32)), .val (.int (0 : Int32)), .val (.long mk0_2), .second] [(.long (-1 : Int64)), (.long mk0_2), (.long u0), (.long (0 : Int64))]))
          refine s_lxor (pc' := 68) X0.here hx (hb hby d3_67) rfl ?_
          refine s_land (pc' := 69) X0.here hx (hb hby d3_68) rfl ?_
          refine s_lor (pc' := 70) X0.here hx (hb hby d3_69) rfl ?_
          refine s_lstoreN (pc' := 71) (l' := #[.val (.ref a), .val (.ref b), .val (.long ((0 : Int64) ||| (u0 &&& (mk0_2 ^^^ (-1 : Int64))))), .second, .val (.int (3 : Int32)), .val (.int (0 : Int32)), .val (.long mk0_2), .second]) X0.here hx (hb hby d3_70) rfl rfl ?_
          generalize ht0 : ((0 : Int64) ||| (u0 &&& (mk0_2 ^^^ (-1 : Int64)))) = t0
          show Win p.tables e below _ (s₁.setTop (mkF m 71 #[.val (.ref a), .val (.ref b), .val (.long t0), .second, .val (.int (3 : Int32)), .val (.int (0 : Int32)), .val (.long mk0_2), .second] []))
          refine s_aloadN (pc' := 72) X0.here hx (hb hby d3_71) rfl rfl rfl ?_
          refine s_iload (pc' := 74) X0.here hx (hb hby d3_72) rfl rfl ?_
          refine Win.go (fun _ k => XT.dup2 X0.here hx rfl (hb hby d3_74) rfl rfl rfl k) ?_
          show Win p.tables e below _ (s₁.setTop (mkF m 75 #[.val (.ref a), .val (.ref b), .val (.long t0), .second, .val (.int (3 : Int32)), .val (.int (0 : Int32)), .val (.long mk0_2), .second] [(.int (0 : Int32)), (.ref a), (.int (0 : Int32)), (.ref a)]))
          obtain ⟨cl_186, Ar_186, q_186, S_186, N_186, H_186, G_186⟩ := id V_a
          have hi_186 : ¬ ((0 : Int32) < 0 ∨ cl_186.slots.size ≤ ((0 : Int32)).toNatClampNeg) := inb_of S_186 ⟨by decide, by decide⟩
          refine Win.go (fun _ k => X0.laload hx (j := (0 : Int32)) (v := (.long u0)) (by rw [e0]; exact Ar_186.1) (State.isArrayOf_alike hZ.alike Ar_186.2.1) Ar_186.2.2 hi_186 (H_186.at hi_186 rfl) (g := (mkF m 75 #[.val (.ref a), .val (.ref b), .val (.long t0), .second, .val (.int (3 : Int32)), .val (.int (0 : Int32)), .val (.long mk0_2), .second] [(.int (0 : Int32)), (.ref a), (.int (0 : Int32)), (.ref a)])) rfl rfl (hb hby d3_75) _ k) ?_
          show Win p.tables e below _ (s₁.setTop (mkF m 76 #[.val (.ref a), .val (.ref b), .val (.long t0), .second, .val (.int (3 : Int32)), .val (.int (0 : Int32)), .val (.long mk0_2), .second] [(.long u0), (.int (0 : Int32)), (.ref a)]))
          clear Ar_186 q_186 S_186 N_186 H_186 G_186 hi_186
          refine s_lload (pc' := 78) X0.here hx (hb hby d3_76) rfl rfl ?_
          refine s_land (pc' := 79) X0.here hx (hb hby d3_78) rfl ?_
          obtain ⟨cl_187, Ar_187, q_187, S_187, N_187, H_187, G_187⟩ := V_a
          obtain ⟨T_187, h_187, X_187, e_187, W_187, st_187⟩ := stJ X0 hx hZ e0 Ar_187 (j := (0 : Int32)) (inb_of S_187 ⟨by decide, by decide⟩) (g := (mkF m 79 #[.val (.ref a), .val (.ref b), .val (.long t0), .second, .val (.int (3 : Int32)), .val (.int (0 : Int32)), .val (.long mk0_2), .second] [(.long (u0 &&& mk0_2)), (.int (0 : Int32)), (.ref a)])) rfl rfl (hb hby d3_79)
          have V_187 := Arv.set Ar_187 q_187 S_187 N_187 H_187 G_187 rfl W_187 0 rfl (Nat.le_of_ble_eq_true rfl)
          replace V_b := V_b.other W_187 ne_b_a
          replace lt_a := Nat.lt_of_lt_of_le lt_a (Keep.of_wr W_187).1
          replace lt_b := Nat.lt_of_lt_of_le lt_b (Keep.of_wr W_187).1
          replace Zs := Nat.le_trans Zs (Keep.of_wr W_187).1
          replace Kp := Kp.wr W_187 (Or.inl (by simp))
          replace V_a : Arv Z h_187 a ka .long (2 : Int32) [(.long (u0 &&& mk0_2)), (.long u1)] (.long (0 : Int64)) := V_187
          replace Nf := Fr.snoc X_187 Nf g_a
          refine Win.go st_187 ?_
          clear st_187 W_187 V_187 Ar_187 q_187 S_187 N_187 H_187 G_187 X0 e0
          show Win p.tables e below _ (T_187.setTop (mkF m 80 #[.val (.ref a), .val (.ref b), .val (.long t0), .second, .val (.int (3 : Int32)), .val (.int (0 : Int32)), .val (.long mk0_2), .second] []))
          refine Win.go (fun _ k => XS.iinc X_187.here hx rfl (hb hby d3_80) rfl (l' := #[.val (.ref a), .val (.ref b), .val (.long t0), .second, .val (.int (3 : Int32)), .val (.int (1 : Int32)), .val (.long mk0_2), .second]) rfl k) ?_
          show Win p.tables e below _ (T_187.setTop (mkF m 83 #[.val (.ref a), .val (.ref b), .val (.long t0), .second, .val (.int (3 : Int32)), .val (.int (1 : Int32)), .val (.long mk0_2), .second] []))
          refine s_goto (pc' := 8) X_187.here hx (hb hby d3_83) (by decide) (by decide) ?_
          refine s_iload (pc' := 10) X_187.here hx (hb hby d3_8) rfl rfl ?_
          refine s_aloadN (pc' := 11) X_187.here hx (hb hby d3_10) rfl rfl rfl ?_
          obtain ⟨cl_188, Ar_188, q_188, S_188, N_188, H_188, G_188⟩ := id V_a
          refine Win.go (fun _ k => X_187.arraylength hx (by rw [e_187]; exact Ar_188.1) (State.isArrayOf_alike hZ.alike Ar_188.2.1) (g := (mkF m 11 #[.val (.ref a), .val (.ref b), .val (.long t0), .second, .val (.int (3 : Int32)), .val (.int (1 : Int32)), .val (.long mk0_2), .second] [(.ref a), (.int (1 : Int32))])) rfl rfl (hb hby d3_11) _ k) ?_
          rw [len_of S_188 N_188]
          clear Ar_188 q_188 S_188 N_188 H_188 G_188
          show Win p.tables e below _ (T_187.setTop (mkF m 12 #[.val (.ref a), .val (.ref b), .val (.long t0), .second, .val (.int (3 : Int32)), .val (.int (1 : Int32)), .val (.long mk0_2), .second] [(.int (2 : Int32)), (.int (1 : Int32))]))
          refine s_icmpNo (pc' := 15) X_187.here hx (hb hby d3_12) rfl (tltI (x := (1 : Int32)) (y := (2 : Int32)) (by decide)).2.1 ?_
          refine s_lconst (pc' := 16) (z := (0 : Int64)) X_187.here hx (hb hby d3_15) rfl rfl ?_
          refine s_lstore (pc' := 18) (l' := #[.val (.ref a), .val (.ref b), .val (.long t0), .second, .val (.int (3 : Int32)), .val (.int (1 : Int32)), .val (.long (0 : Int64)), .second]) X_187.here hx (hb hby d3_16) rfl rfl ?_
          refine s_iload (pc' := 20) X_187.here hx (hb hby d3_18) rfl rfl ?_
          refine s_aloadN (pc' := 21) X_187.here hx (hb hby d3_20) rfl rfl rfl ?_
          obtain ⟨cl_189, Ar_189, q_189, S_189, N_189, H_189, G_189⟩ := id V_b
          refine Win.go (fun _ k => X_187.arraylength hx (by rw [e_187]; exact Ar_189.1) (State.isArrayOf_alike hZ.alike Ar_189.2.1) (g := (mkF m 21 #[.val (.ref a), .val (.ref b), .val (.long t0), .second, .val (.int (3 : Int32)), .val (.int (1 : Int32)), .val (.long (0 : Int64)), .second] [(.ref b), (.int (3 : Int32))])) rfl rfl (hb hby d3_21) _ k) ?_
          rw [len_of S_189 N_189]
          clear Ar_189 q_189 S_189 N_189 H_189 G_189
          show Win p.tables e below _ (T_187.setTop (mkF m 22 #[.val (.ref a), .val (.ref b), .val (.long t0), .second, .val (.int (3 : Int32)), .val (.int (1 : Int32)), .val (.long (0 : Int64)), .second] [(.int (4 : Int32)), (.int (3 : Int32))]))
          refine s_icmpNo (pc' := 25) X_187.here hx (hb hby d3_22) rfl (tltI (x := (3 : Int32)) (y := (4 : Int32)) (by decide)).2.1 ?_
          refine s_aloadN (pc' := 26) X_187.here hx (hb hby d3_25) rfl rfl rfl ?_
          refine s_iload (pc' := 28) X_187.here hx (hb hby d3_26) rfl rfl ?_
          obtain ⟨cl_190, Ar_190, q_190, S_190, N_190, H_190, G_190⟩ := id V_b
          have hi_190 : ¬ ((3 : Int32) < 0 ∨ cl_190.slots.size ≤ ((3 : Int32)).toNatClampNeg) := inb_of S_190 ⟨by decide, by decide⟩
          refine Win.go (fun _ k => X_187.iaload hx (j := (3 : Int32)) (v := (.int v3)) (by rw [e_187]; exact Ar_190.1) (State.isArrayOf_alike hZ.alike Ar_190.2.1) Ar_190.2.2 hi_190 (H_190.at hi_190 rfl) (g := (mkF m 28 #[.val (.ref a), .val (.ref b), .val (.long t0), .second, .val (.int (3 : Int32)), .val (.int (1 : Int32)), .val (.long (0 : Int64)), .second] [(.int (3 : Int32)), (.ref b)])) rfl rfl (hb hby d3_28) _ k) ?_
          show Win p.tables e below _ (T_187.setTop (mkF m 29 #[.val (.ref a), .val (.ref b), .val (.long t0), .second, .val (.int (3 : Int32)), .val (.int (1 : Int32)), .val (.long (0 : Int64)), .second] [(.int v3)]))
          clear Ar_190 q_190 S_190 N_190 H_190 G_190 hi_190
          refine s_bipush (pc' := 31) (z := (64 : Int32)) X_187.here hx (hb hby d3_29) rfl rfl ?_
          refine Win.go (fun _ k => XS.idiv X_187.here hx rfl (hb hby d3_31) rfl (by decide) k) ?_
          show Win p.tables e below _ (T_187.setTop (mkF m 32 #[.val (.ref a), .val (.ref b), .val (.long t0), .second, .val (.int (3 : Int32)), .val (.int (1 : Int32)), .val (.long (0 : Int64)), .second] [(.int (v3 / (64 : Int32)))]))
          refine s_iload (pc' := 34) X_187.here hx (hb hby d3_32) rfl rfl ?_
          by_cases hc34_4 : ((v3 / (64 : Int32))).toInt = (1 : Int)
          · skip
            refine s_icmpNo (pc' := 37) X_187.here hx (hb hby d3_34) rfl (teqI (x := (v3 / (64 : Int32))) (y := (1 : Int32)) hc34_4).2 ?_
            refine s_lload (pc' := 39) X_187.here hx (hb hby d3_37) rfl rfl ?_
            refine s_lconst (pc' := 40) (z := (1 : Int64)) X_187.here hx (hb hby d3_39) rfl rfl ?_
            refine s_aloadN (pc' := 41) X_187.here hx (hb hby d3_40) rfl rfl rfl ?_
            refine s_iload (pc' := 43) X_187.here hx (hb hby d3_41) rfl rfl ?_
            obtain ⟨cl_191, Ar_191, q_191, S_191, N_191, H_191, G_191⟩ := id V_b
            have hi_191 : ¬ ((3 : Int32) < 0 ∨ cl_191.slots.size ≤ ((3 : Int32)).toNatClampNeg) := inb_of S_191 ⟨by decide, by decide⟩
            refine Win.go (fun _ k => X_187.iaload hx (j := (3 : Int32)) (v := (.int v3)) (by rw [e_187]; exact Ar_191.1) (State.isArrayOf_alike hZ.alike Ar_191.2.1) Ar_191.2.2 hi_191 (H_191.at hi_191 rfl) (g := (mkF m 43 #[.val (.ref a), .val (.ref b), .val (.long t0), .second, .val (.int (3 : Int32)), .val (.int (1 : Int32)), .val (.long (0 : Int64)), .second] [(.int (3 : Int32)), (.ref b), (.long (1 : Int64)), (.long (0 : Int64))])) rfl rfl (hb hby d3_43) _ k) ?_
            show Win p.tables e below _ (T_187.setTop (mkF m 44 #[.val (.ref a), .val (.ref b), .val (.long t0), .second, .val (.int (3 : Int32)), .val (.int (1 : Int32)), .val (.long (0 : Int64)), .second] [(.int v3), (.long (1 : Int64)), (.long (0 : Int64))]))
            clear Ar_191 q_191 S_191 N_191 H_191 G_191 hi_191
            refine s_bipush (pc' := 46) (z := (64 : Int32)) X_187.here hx (hb hby d3_44) rfl rfl ?_
            refine Win.go (fun _ k => iremM X_187 hx rfl (hb hby d3_46) rfl (by decide) k) ?_
            show Win p.tables e below _ (T_187.setTop (mkF m 47 #[.val (.ref a), .val (.ref b), .val (.long t0), .second, .val (.int (3 : Int32)), .val (.int (1 : Int32)), .val (.long (0 : Int64)), .second] [(.int (v3 % (64 : Int32))), (.long (1 : Int64)), (.long (0 : Int64))]))
            refine Win.go (fun _ k => XT.lshl X_187.here hx rfl (hb hby d3_47) rfl k) ?_
            show Win p.tables e below _ (T_187.setTop (mkF m 48 #[.val (.ref a), .val (.ref b), .val (.long t0), .second, .val (.int (3 : Int32)), .val (.int (1 : Int32)), .val (.long (0 : Int64)), .second] [(.long ((1 : Int64) <<< ((v3 % (64 : Int32)).toInt64 &&& 63))), (.long (0 : Int64))]))
            refine s_lor (pc' := 49) X_187.here hx (hb hby d3_48) rfl ?_
            refine s_lstore (pc' := 51) (l' := #[.val (.ref a), .val (.ref b), .val (.long t0), .second, .val (.int (3 : Int32)), .val (.int (1 : Int32)), .val (.long ((0 : Int64) ||| ((1 : Int64) <<< ((v3 % (64 : Int32)).toInt64 &&& 63)))), .second]) X_187.here hx (hb hby d3_49) rfl rfl ?_
            generalize hmk1_3 : ((0 : Int64) ||| ((1 : Int64) <<< ((v3 % (64 : Int32)).toInt64 &&& 63))) = mk1_3
            show Win p.tables e below _ (T_187.setTop (mkF m 51 #[.val (.ref a), .val (.ref b), .val (.long t0), .second, .val (.int (3 : Int32)), .val (.int (1 : Int32)), .val (.long mk1_3), .second] []))
            refine Win.go (fun _ k => XS.iinc X_187.here hx rfl (hb hby d3_51) rfl (l' := #[.val (.ref a), .val (.ref b), .val (.long t0), .second, .val (.int (4 : Int32)), .val (.int (1 : Int32)), .val (.long mk1_3), .second]) rfl k) ?_
            show Win p.tables e below _ (T_187.setTop (mkF m 54 #[.val (.ref a), .val (.ref b), .val (.long t0), .second, .val (.int (4 : Int32)), .val (.int (1 : Int32)), .val (.long mk1_3), .second] []))
            refine s_goto (pc' := 18) X_187.here hx (hb hby d3_54) (by decide) (by decide) ?_
            refine s_iload (pc' := 20) X_187.here hx (hb hby d3_18) rfl rfl ?_
            refine s_aloadN (pc' := 21) X_187.here hx (hb hby d3_20) rfl rfl rfl ?_
            obtain ⟨cl_192, Ar_192, q_192, S_192, N_192, H_192, G_192⟩ := id V_b
            refine Win.go (fun _ k => X_187.arraylength hx (by rw [e_187]; exact Ar_192.1) (State.isArrayOf_alike hZ.alike Ar_192.2.1) (g := (mkF m 21 #[.val (.ref a), .val (.ref b), .val (.long t0), .second, .val (.int (4 : Int32)), .val (.int (1 : Int32)), .val (.long mk1_3), .second] [(.ref b), (.int (4 : Int32))])) rfl rfl (hb hby d3_21) _ k) ?_
            rw [len_of S_192 N_192]
            clear Ar_192 q_192 S_192 N_192 H_192 G_192
            show Win p.tables e below _ (T_187.setTop (mkF m 22 #[.val (.ref a), .val (.ref b), .val (.long t0), .second, .val (.int (4 : Int32)), .val (.int (1 : Int32)), .val (.long mk1_3), .second] [(.int (4 : Int32)), (.int (4 : Int32))]))
            refine s_icmpYes (pc' := 57) X_187.here hx (hb hby d3_22) (fltI (x := (4 : Int32)) (y := (4 : Int32)) (by decide)).2.1 (by decide) (by decide) ?_
            refine s_lloadN (pc' := 58) X_187.here hx (hb hby d3_57) rfl rfl ?_
            refine s_aloadN (pc' := 59) X_187.here hx (hb hby d3_58) rfl rfl rfl ?_
            refine s_iload (pc' := 61) X_187.here hx (hb hby d3_59) rfl rfl ?_
            obtain ⟨cl_193, Ar_193, q_193, S_193, N_193, H_193, G_193⟩ := id V_a
            have hi_193 : ¬ ((1 : Int32) < 0 ∨ cl_193.slots.size ≤ ((1 : Int32)).toNatClampNeg) := inb_of S_193 ⟨by decide, by decide⟩
            refine Win.go (fun _ k => X_187.laload hx (j := (1 : Int32)) (v := (.long u1)) (by rw [e_187]; exact Ar_193.1) (State.isArrayOf_alike hZ.alike Ar_193.2.1) Ar_193.2.2 hi_193 (H_193.at hi_193 rfl) (g := (mkF m 61 #[.val (.ref a), .val (.ref b), .val (.long t0), .second, .val (.int (4 : Int32)), .val (.int (1 : Int32)), .val (.long mk1_3), .second] [(.int (1 : Int32)), (.ref a), (.long t0)])) rfl rfl (hb hby d3_61) _ k) ?_
            show Win p.tables e below _ (T_187.setTop (mkF m 62 #[.val (.ref a), .val (.ref b), .val (.long t0), .second, .val (.int (4 : Int32)), .val (.int (1 : Int32)), .val (.long mk1_3), .second] [(.long u1), (.long t0)]))
            clear Ar_193 q_193 S_193 N_193 H_193 G_193 hi_193
            refine s_lload (pc' := 64) X_187.here hx (hb hby d3_62) rfl rfl ?_
            refine Win.go (fun _ k => X_187.ldc2Long hx hown (mvT hZ (hw _ (List.mem_of_getElem? (i := 14) rfl))) (g := (mkF m 64 #[.val (.ref a), .val (.ref b), .val (.long t0), .second, .val (.int (4 : Int32)), .val (.int (1 : Int32)), .val (.long mk1_3), .second] [(.long mk1_3), (.long u1), (.long t0)])) rfl (hb hby d3_64) _ k) ?_
            show Win p.tables e below _ (T_187.setTop (mkF m 67 #[.val (.ref a), .val (.ref b), .val (.long t0), .second, .val (.int (4 : Int32)), .val (.int (1 : Int32)), .val (.long mk1_3), .second] [(.long (-1 : Int64)), (.long mk1_3), (.long u1), (.long t0)]))
            refine s_lxor (pc' := 68) X_187.here hx (hb hby d3_67) rfl ?_
            refine s_land (pc' := 69) X_187.here hx (hb hby d3_68) rfl ?_
            refine s_lor (pc' := 70) X_187.here hx (hb hby d3_69) rfl ?_
            refine s_lstoreN (pc' := 71) (l' := #[.val (.ref a), .val (.ref b), .val (.long (t0 ||| (u1 &&& (mk1_3 ^^^ (-1 : Int64))))), .second, .val (.int (4 : Int32)), .val (.int (1 : Int32)), .val (.long mk1_3), .second]) X_187.here hx (hb hby d3_70) rfl rfl ?_
            generalize ht1 : (t0 ||| (u1 &&& (mk1_3 ^^^ (-1 : Int64)))) = t1
            show Win p.tables e below _ (T_187.setTop (mkF m 71 #[.val (.ref a), .val (.ref b), .val (.long t1), .second, .val (.int (4 : Int32)), .val (.int (1 : Int32)), .val (.long mk1_3), .second] []))
            refine s_aloadN (pc' := 72) X_187.here hx (hb hby d3_71) rfl rfl rfl ?_
            refine s_iload (pc' := 74) X_187.here hx (hb hby d3_72) rfl rfl ?_
            refine Win.go (fun _ k => XT.dup2 X_187.here hx rfl (hb hby d3_74) rfl rfl rfl k) ?_
            show Win p.tables e below _ (T_187.setTop (mkF m 75 #[.val (.ref a), .val (.ref b), .val (.long t1), .second, .val (.int (4 : Int32)), .val (.int (1 : Int32)), .val (.long mk1_3), .second] [(.int (1 : Int32)), (.ref a), (.int (1 : Int32)), (.ref a)]))
            obtain ⟨cl_194, Ar_194, q_194, S_194, N_194, H_194, G_194⟩ := id V_a
            have hi_194 : ¬ ((1 : Int32) < 0 ∨ cl_194.slots.size ≤ ((1 : Int32)).toNatClampNeg) := inb_of S_194 ⟨by decide, by decide⟩
            refine Win.go (fun _ k => X_187.laload hx (j := (1 : Int32)) (v := (.long u1)) (by rw [e_187]; exact Ar_194.1) (State.isArrayOf_alike hZ.alike Ar_194.2.1) Ar_194.2.2 hi_194 (H_194.at hi_194 rfl) (g := (mkF m 75 #[.val (.ref a), .val (.ref b), .val (.long t1), .second, .val (.int (4 : Int32)), .val (.int (1 : Int32)), .val (.long mk1_3), .second] [(.int (1 : Int32)), (.ref a), (.int (1 : Int32)), (.ref a)])) rfl rfl (hb hby d3_75) _ k) ?_
            show Win p.tables e below _ (T_187.setTop (mkF m 76 #[.val (.ref a), .val (.ref b), .val (.long t1), .second, .val (.int (4 : Int32)), .val (.int (1 : Int32)), .val (.long mk1_3), .second] [(.long u1), (.int (1 : Int32)), (.ref a)]))
            clear Ar_194 q_194 S_194 N_194 H_194 G_194 hi_194
            refine s_lload (pc' := 78) X_187.here hx (hb hby d3_76) rfl rfl ?_
            refine s_land (pc' := 79) X_187.here hx (hb hby d3_78) rfl ?_
            obtain ⟨cl_195, Ar_195, q_195, S_195, N_195, H_195, G_195⟩ := V_a
            obtain ⟨T_195, h_195, X_195, e_195, W_195, st_195⟩ := stJ X_187 hx hZ e_187 Ar_195 (j := (1 : Int32)) (inb_of S_195 ⟨by decide, by decide⟩) (g := (mkF m 79 #[.val (.ref a), .val (.ref b), .val (.long t1), .second, .val (.int (4 : Int32)), .val (.int (1 : Int32)), .val (.long mk1_3), .second] [(.long (u1 &&& mk1_3)), (.int (1 : Int32)), (.ref a)])) rfl rfl (hb hby d3_79)
            have V_195 := Arv.set Ar_195 q_195 S_195 N_195 H_195 G_195 rfl W_195 1 rfl (Nat.le_of_ble_eq_true rfl)
            replace V_b := V_b.other W_195 ne_b_a
            replace lt_a := Nat.lt_of_lt_of_le lt_a (Keep.of_wr W_195).1
            replace lt_b := Nat.lt_of_lt_of_le lt_b (Keep.of_wr W_195).1
            replace Zs := Nat.le_trans Zs (Keep.of_wr W_195).1
            replace Kp := Kp.wr W_195 (Or.inl (by simp))
            replace V_a : Arv Z h_195 a ka .long (2 : Int32) [(.long (u0 &&& mk0_2)), (.long (u1 &&& mk1_3))] (.long (0 : Int64)) := V_195
            replace Nf := Fr.snoc X_195 Nf g_a
            refine Win.go st_195 ?_
            clear st_195 W_195 V_195 Ar_195 q_195 S_195 N_195 H_195 G_195 X_187 e_187
            show Win p.tables e below _ (T_195.setTop (mkF m 80 #[.val (.ref a), .val (.ref b), .val (.long t1), .second, .val (.int (4 : Int32)), .val (.int (1 : Int32)), .val (.long mk1_3), .second] []))
            refine Win.go (fun _ k => XS.iinc X_195.here hx rfl (hb hby d3_80) rfl (l' := #[.val (.ref a), .val (.ref b), .val (.long t1), .second, .val (.int (4 : Int32)), .val (.int (2 : Int32)), .val (.long mk1_3), .second]) rfl k) ?_
            show Win p.tables e below _ (T_195.setTop (mkF m 83 #[.val (.ref a), .val (.ref b), .val (.long t1), .second, .val (.int (4 : Int32)), .val (.int (2 : Int32)), .val (.long mk1_3), .second] []))
            refine s_goto (pc' := 8) X_195.here hx (hb hby d3_83) (by decide) (by decide) ?_
            refine s_iload (pc' := 10) X_195.here hx (hb hby d3_8) rfl rfl ?_
            refine s_aloadN (pc' := 11) X_195.here hx (hb hby d3_10) rfl rfl rfl ?_
            obtain ⟨cl_196, Ar_196, q_196, S_196, N_196, H_196, G_196⟩ := id V_a
            refine Win.go (fun _ k => X_195.arraylength hx (by rw [e_195]; exact Ar_196.1) (State.isArrayOf_alike hZ.alike Ar_196.2.1) (g := (mkF m 11 #[.val (.ref a), .val (.ref b), .val (.long t1), .second, .val (.int (4 : Int32)), .val (.int (2 : Int32)), .val (.long mk1_3), .second] [(.ref a), (.int (2 : Int32))])) rfl rfl (hb hby d3_11) _ k) ?_
            rw [len_of S_196 N_196]
            clear Ar_196 q_196 S_196 N_196 H_196 G_196
            show Win p.tables e below _ (T_195.setTop (mkF m 12 #[.val (.ref a), .val (.ref b), .val (.long t1), .second, .val (.int (4 : Int32)), .val (.int (2 : Int32)), .val (.long mk1_3), .second] [(.int (2 : Int32)), (.int (2 : Int32))]))
            refine s_icmpYes (pc' := 86) X_195.here hx (hb hby d3_12) (fltI (x := (2 : Int32)) (y := (2 : Int32)) (by decide)).2.1 (by decide) (by decide) ?_
            refine s_lloadN (pc' := 87) X_195.here hx (hb hby d3_86) rfl rfl ?_
            refine s_lconst (pc' := 88) (z := (0 : Int64)) X_195.here hx (hb hby d3_87) rfl rfl ?_
            refine s_lcmp (pc' := 89) X_195.here hx (hb hby d3_88) rfl ?_
            by_cases hc89_5 : (t1).toInt = (0 : Int)
            · skip
              refine s_ifYes (pc' := 96) X_195.here hx (hb hby d3_89) (teqL (x := t1) (y := (0 : Int64)) hc89_5).1 (by decide) (by decide) ?_
              refine s_iconst (pc' := 97) (z := (0 : Int32)) X_195.here hx (hb hby d3_96) rfl rfl ?_
              refine winN X_195 hx hlk e_195 (t := .boolean) Bd.returns (by simp) (hb hby d3_97) (by decide) (by decide) (z' := (0 : Int32)) rfl ?_
              have e0 := own_lo (v := v0) (by omega) (by omega)
              have e1 := own_lo (v := v1) (by omega) (by omega)
              have e2 := own_lo (v := v2) (by omega) (by omega)
              have e3 := own_hi (v := v3) (by omega) (by omega)
              have mA : ((((bit0 v0) ||| (bit0 v1)) ||| (bit0 v2)) ||| (bit0 v3)) = mk0_2 := by rw [← hmk0_2, ← hmk0_1, ← hmk0_0]; simp only [e0.1, e0.2, e1.1, e1.2, e2.1, e2.2, e3.1, e3.2, Int64.or_zero, Int64.zero_or]
              have mB : ((((bit1 v0) ||| (bit1 v1)) ||| (bit1 v2)) ||| (bit1 v3)) = mk1_3 := by rw [← hmk1_3]; simp only [e0.1, e0.2, e1.1, e1.2, e2.1, e2.2, e3.1, e3.2, Int64.or_zero, Int64.zero_or]
              have tt : (((0 : Int64) ||| (u0 &&& (((((bit0 v0) ||| (bit0 v1)) ||| (bit0 v2)) ||| (bit0 v3)) ^^^ (-1 : Int64)))) ||| (u1 &&& (((((bit1 v0) ||| (bit1 v1)) ||| (bit1 v2)) ||| (bit1 v3)) ^^^ (-1 : Int64)))) = t1 := by rw [mA, mB, ht0, ht1]
              refine ⟨Nf, Kp, by rw [mA, mB]; exact V_a, _, rfl, Or.inr ⟨rfl, ?_⟩⟩
              rw [tt]
              exact fun q => q hc89_5
            · skip
              refine s_ifNo (pc' := 92) X_195.here hx (hb hby d3_89) rfl (feqL (x := t1) (y := (0 : Int64)) hc89_5).1 ?_
              refine s_iconst (pc' := 93) (z := (1 : Int32)) X_195.here hx (hb hby d3_92) rfl rfl ?_
              refine s_goto (pc' := 97) X_195.here hx (hb hby d3_93) (by decide) (by decide) ?_
              refine winN X_195 hx hlk e_195 (t := .boolean) Bd.returns (by simp) (hb hby d3_97) (by decide) (by decide) (z' := (1 : Int32)) rfl ?_
              have e0 := own_lo (v := v0) (by omega) (by omega)
              have e1 := own_lo (v := v1) (by omega) (by omega)
              have e2 := own_lo (v := v2) (by omega) (by omega)
              have e3 := own_hi (v := v3) (by omega) (by omega)
              have mA : ((((bit0 v0) ||| (bit0 v1)) ||| (bit0 v2)) ||| (bit0 v3)) = mk0_2 := by rw [← hmk0_2, ← hmk0_1, ← hmk0_0]; simp only [e0.1, e0.2, e1.1, e1.2, e2.1, e2.2, e3.1, e3.2, Int64.or_zero, Int64.zero_or]
              have mB : ((((bit1 v0) ||| (bit1 v1)) ||| (bit1 v2)) ||| (bit1 v3)) = mk1_3 := by rw [← hmk1_3]; simp only [e0.1, e0.2, e1.1, e1.2, e2.1, e2.2, e3.1, e3.2, Int64.or_zero, Int64.zero_or]
              have tt : (((0 : Int64) ||| (u0 &&& (((((bit0 v0) ||| (bit0 v1)) ||| (bit0 v2)) ||| (bit0 v3)) ^^^ (-1 : Int64)))) ||| (u1 &&& (((((bit1 v0) ||| (bit1 v1)) ||| (bit1 v2)) ||| (bit1 v3)) ^^^ (-1 : Int64)))) = t1 := by rw [mA, mB, ht0, ht1]
              refine ⟨Nf, Kp, by rw [mA, mB]; exact V_a, _, rfl, Or.inl ⟨rfl, ?_⟩⟩
              rw [tt]
              exact hc89_5
          · skip
            exfalso
            omega
      · skip
        refine s_icmpYes (pc' := 57) X0.here hx (hb hby d3_34) (feqI (x := (v2 / (64 : Int32))) (y := (0 : Int32)) hc34_2).2 (by decide) (by decide) ?_
        refine s_lloadN (pc' := 58) X0.here hx (hb hby d3_57) rfl rfl ?_
        refine s_aloadN (pc' := 59) X0.here hx (hb hby d3_58) rfl rfl rfl ?_
        refine s_iload (pc' := 61) X0.here hx (hb hby d3_59) rfl rfl ?_
        obtain ⟨cl_197, Ar_197, q_197, S_197, N_197, H_197, G_197⟩ := id V_a
        have hi_197 : ¬ ((0 : Int32) < 0 ∨ cl_197.slots.size ≤ ((0 : Int32)).toNatClampNeg) := inb_of S_197 ⟨by decide, by decide⟩
        refine Win.go (fun _ k => X0.laload hx (j := (0 : Int32)) (v := (.long u0)) (by rw [e0]; exact Ar_197.1) (State.isArrayOf_alike hZ.alike Ar_197.2.1) Ar_197.2.2 hi_197 (H_197.at hi_197 rfl) (g := (mkF m 61 #[.val (.ref a), .val (.ref b), .val (.long (0 : Int64)), .second, .val (.int (2 : Int32)), .val (.int (0 : Int32)), .val (.long mk0_1), .second] [(.int (0 : Int32)), (.ref a), (.long (0 : Int64))])) rfl rfl (hb hby d3_61) _ k) ?_
        show Win p.tables e below _ (s₁.setTop (mkF m 62 #[.val (.ref a), .val (.ref b), .val (.long (0 : Int64)), .second, .val (.int (2 : Int32)), .val (.int (0 : Int32)), .val (.long mk0_1), .second] [(.long u0), (.long (0 : Int64))]))
        clear Ar_197 q_197 S_197 N_197 H_197 G_197 hi_197
        refine s_lload (pc' := 64) X0.here hx (hb hby d3_62) rfl rfl ?_
        refine Win.go (fun _ k => X0.ldc2Long hx hown (mvT hZ (hw _ (List.mem_of_getElem? (i := 14) rfl))) (g := (mkF m 64 #[.val (.ref a), .val (.ref b), .val (.long (0 : Int64)), .second, .val (.int (2 : Int32)), .val (.int (0 : Int32)), .val (.long mk0_1), .second] [(.long mk0_1), (.long u0), (.long (0 : Int64))])) rfl (hb hby d3_64) _ k) ?_
        show Win p.tables e below _ (s₁.setTop (mkF m 67 #[.val (.ref a), .val (.ref b), .val (.long (0 : Int64)), .second, .val (.int (2 : Int32)), .val (.int (0 : Int32)), .val (.long mk0_1), .second] [(.long (-1 : Int64)), (.long mk0_1), (.long u0), (.long (0 : Int64))]))
        refine s_lxor (pc' := 68) X0.here hx (hb hby d3_67) rfl ?_
        refine s_land (pc' := 69) X0.here hx (hb hby d3_68) rfl ?_
        refine s_lor (pc' := 70) X0.here hx (hb hby d3_69) rfl ?_
        refine s_lstoreN (pc' := 71) (l' := #[.val (.ref a), .val (.ref b), .val (.long ((0 : Int64) ||| (u0 &&& (mk0_1 ^^^ (-1 : Int64))))), .second, .val (.int (2 : Int32)), .val (.int (0 : Int32)), .val (.long mk0_1), .second]) X0.here hx (hb hby d3_70) rfl rfl ?_
        generalize ht0 : ((0 : Int64) ||| (u0 &&& (mk0_1 ^^^ (-1 : Int64)))) = t0
        show Win p.tables e below _ (s₁.setTop (mkF m 71 #[.val (.ref a), .val (.ref b), .val (.long t0), .second, .val (.int (2 : Int32)), .val (.int (0 : Int32)), .val (.long mk0_1), .second] []))
        refine s_aloadN (pc' := 72) X0.here hx (hb hby d3_71) rfl rfl rfl ?_
        refine s_iload (pc' := 74) X0.here hx (hb hby d3_72) rfl rfl ?_
        refine Win.go (fun _ k => XT.dup2 X0.here hx rfl (hb hby d3_74) rfl rfl rfl k) ?_
        show Win p.tables e below _ (s₁.setTop (mkF m 75 #[.val (.ref a), .val (.ref b), .val (.long t0), .second, .val (.int (2 : Int32)), .val (.int (0 : Int32)), .val (.long mk0_1), .second] [(.int (0 : Int32)), (.ref a), (.int (0 : Int32)), (.ref a)]))
        obtain ⟨cl_198, Ar_198, q_198, S_198, N_198, H_198, G_198⟩ := id V_a
        have hi_198 : ¬ ((0 : Int32) < 0 ∨ cl_198.slots.size ≤ ((0 : Int32)).toNatClampNeg) := inb_of S_198 ⟨by decide, by decide⟩
        refine Win.go (fun _ k => X0.laload hx (j := (0 : Int32)) (v := (.long u0)) (by rw [e0]; exact Ar_198.1) (State.isArrayOf_alike hZ.alike Ar_198.2.1) Ar_198.2.2 hi_198 (H_198.at hi_198 rfl) (g := (mkF m 75 #[.val (.ref a), .val (.ref b), .val (.long t0), .second, .val (.int (2 : Int32)), .val (.int (0 : Int32)), .val (.long mk0_1), .second] [(.int (0 : Int32)), (.ref a), (.int (0 : Int32)), (.ref a)])) rfl rfl (hb hby d3_75) _ k) ?_
        show Win p.tables e below _ (s₁.setTop (mkF m 76 #[.val (.ref a), .val (.ref b), .val (.long t0), .second, .val (.int (2 : Int32)), .val (.int (0 : Int32)), .val (.long mk0_1), .second] [(.long u0), (.int (0 : Int32)), (.ref a)]))
        clear Ar_198 q_198 S_198 N_198 H_198 G_198 hi_198
        refine s_lload (pc' := 78) X0.here hx (hb hby d3_76) rfl rfl ?_
        refine s_land (pc' := 79) X0.here hx (hb hby d3_78) rfl ?_
        obtain ⟨cl_199, Ar_199, q_199, S_199, N_199, H_199, G_199⟩ := V_a
        obtain ⟨T_199, h_199, X_199, e_199, W_199, st_199⟩ := stJ X0 hx hZ e0 Ar_199 (j := (0 : Int32)) (inb_of S_199 ⟨by decide, by decide⟩) (g := (mkF m 79 #[.val (.ref a), .val (.ref b), .val (.long t0), .second, .val (.int (2 : Int32)), .val (.int (0 : Int32)), .val (.long mk0_1), .second] [(.long (u0 &&& mk0_1)), (.int (0 : Int32)), (.ref a)])) rfl rfl (hb hby d3_79)
        have V_199 := Arv.set Ar_199 q_199 S_199 N_199 H_199 G_199 rfl W_199 0 rfl (Nat.le_of_ble_eq_true rfl)
        replace V_b := V_b.other W_199 ne_b_a
        replace lt_a := Nat.lt_of_lt_of_le lt_a (Keep.of_wr W_199).1
        replace lt_b := Nat.lt_of_lt_of_le lt_b (Keep.of_wr W_199).1
        replace Zs := Nat.le_trans Zs (Keep.of_wr W_199).1
        replace Kp := Kp.wr W_199 (Or.inl (by simp))
        replace V_a : Arv Z h_199 a ka .long (2 : Int32) [(.long (u0 &&& mk0_1)), (.long u1)] (.long (0 : Int64)) := V_199
        replace Nf := Fr.snoc X_199 Nf g_a
        refine Win.go st_199 ?_
        clear st_199 W_199 V_199 Ar_199 q_199 S_199 N_199 H_199 G_199 X0 e0
        show Win p.tables e below _ (T_199.setTop (mkF m 80 #[.val (.ref a), .val (.ref b), .val (.long t0), .second, .val (.int (2 : Int32)), .val (.int (0 : Int32)), .val (.long mk0_1), .second] []))
        refine Win.go (fun _ k => XS.iinc X_199.here hx rfl (hb hby d3_80) rfl (l' := #[.val (.ref a), .val (.ref b), .val (.long t0), .second, .val (.int (2 : Int32)), .val (.int (1 : Int32)), .val (.long mk0_1), .second]) rfl k) ?_
        show Win p.tables e below _ (T_199.setTop (mkF m 83 #[.val (.ref a), .val (.ref b), .val (.long t0), .second, .val (.int (2 : Int32)), .val (.int (1 : Int32)), .val (.long mk0_1), .second] []))
        refine s_goto (pc' := 8) X_199.here hx (hb hby d3_83) (by decide) (by decide) ?_
        refine s_iload (pc' := 10) X_199.here hx (hb hby d3_8) rfl rfl ?_
        refine s_aloadN (pc' := 11) X_199.here hx (hb hby d3_10) rfl rfl rfl ?_
        obtain ⟨cl_200, Ar_200, q_200, S_200, N_200, H_200, G_200⟩ := id V_a
        refine Win.go (fun _ k => X_199.arraylength hx (by rw [e_199]; exact Ar_200.1) (State.isArrayOf_alike hZ.alike Ar_200.2.1) (g := (mkF m 11 #[.val (.ref a), .val (.ref b), .val (.long t0), .second, .val (.int (2 : Int32)), .val (.int (1 : Int32)), .val (.long mk0_1), .second] [(.ref a), (.int (1 : Int32))])) rfl rfl (hb hby d3_11) _ k) ?_
        rw [len_of S_200 N_200]
        clear Ar_200 q_200 S_200 N_200 H_200 G_200
        show Win p.tables e below _ (T_199.setTop (mkF m 12 #[.val (.ref a), .val (.ref b), .val (.long t0), .second, .val (.int (2 : Int32)), .val (.int (1 : Int32)), .val (.long mk0_1), .second] [(.int (2 : Int32)), (.int (1 : Int32))]))
        refine s_icmpNo (pc' := 15) X_199.here hx (hb hby d3_12) rfl (tltI (x := (1 : Int32)) (y := (2 : Int32)) (by decide)).2.1 ?_
        refine s_lconst (pc' := 16) (z := (0 : Int64)) X_199.here hx (hb hby d3_15) rfl rfl ?_
        refine s_lstore (pc' := 18) (l' := #[.val (.ref a), .val (.ref b), .val (.long t0), .second, .val (.int (2 : Int32)), .val (.int (1 : Int32)), .val (.long (0 : Int64)), .second]) X_199.here hx (hb hby d3_16) rfl rfl ?_
        refine s_iload (pc' := 20) X_199.here hx (hb hby d3_18) rfl rfl ?_
        refine s_aloadN (pc' := 21) X_199.here hx (hb hby d3_20) rfl rfl rfl ?_
        obtain ⟨cl_201, Ar_201, q_201, S_201, N_201, H_201, G_201⟩ := id V_b
        refine Win.go (fun _ k => X_199.arraylength hx (by rw [e_199]; exact Ar_201.1) (State.isArrayOf_alike hZ.alike Ar_201.2.1) (g := (mkF m 21 #[.val (.ref a), .val (.ref b), .val (.long t0), .second, .val (.int (2 : Int32)), .val (.int (1 : Int32)), .val (.long (0 : Int64)), .second] [(.ref b), (.int (2 : Int32))])) rfl rfl (hb hby d3_21) _ k) ?_
        rw [len_of S_201 N_201]
        clear Ar_201 q_201 S_201 N_201 H_201 G_201
        show Win p.tables e below _ (T_199.setTop (mkF m 22 #[.val (.ref a), .val (.ref b), .val (.long t0), .second, .val (.int (2 : Int32)), .val (.int (1 : Int32)), .val (.long (0 : Int64)), .second] [(.int (4 : Int32)), (.int (2 : Int32))]))
        refine s_icmpNo (pc' := 25) X_199.here hx (hb hby d3_22) rfl (tltI (x := (2 : Int32)) (y := (4 : Int32)) (by decide)).2.1 ?_
        refine s_aloadN (pc' := 26) X_199.here hx (hb hby d3_25) rfl rfl rfl ?_
        refine s_iload (pc' := 28) X_199.here hx (hb hby d3_26) rfl rfl ?_
        obtain ⟨cl_202, Ar_202, q_202, S_202, N_202, H_202, G_202⟩ := id V_b
        have hi_202 : ¬ ((2 : Int32) < 0 ∨ cl_202.slots.size ≤ ((2 : Int32)).toNatClampNeg) := inb_of S_202 ⟨by decide, by decide⟩
        refine Win.go (fun _ k => X_199.iaload hx (j := (2 : Int32)) (v := (.int v2)) (by rw [e_199]; exact Ar_202.1) (State.isArrayOf_alike hZ.alike Ar_202.2.1) Ar_202.2.2 hi_202 (H_202.at hi_202 rfl) (g := (mkF m 28 #[.val (.ref a), .val (.ref b), .val (.long t0), .second, .val (.int (2 : Int32)), .val (.int (1 : Int32)), .val (.long (0 : Int64)), .second] [(.int (2 : Int32)), (.ref b)])) rfl rfl (hb hby d3_28) _ k) ?_
        show Win p.tables e below _ (T_199.setTop (mkF m 29 #[.val (.ref a), .val (.ref b), .val (.long t0), .second, .val (.int (2 : Int32)), .val (.int (1 : Int32)), .val (.long (0 : Int64)), .second] [(.int v2)]))
        clear Ar_202 q_202 S_202 N_202 H_202 G_202 hi_202
        refine s_bipush (pc' := 31) (z := (64 : Int32)) X_199.here hx (hb hby d3_29) rfl rfl ?_
        refine Win.go (fun _ k => XS.idiv X_199.here hx rfl (hb hby d3_31) rfl (by decide) k) ?_
        show Win p.tables e below _ (T_199.setTop (mkF m 32 #[.val (.ref a), .val (.ref b), .val (.long t0), .second, .val (.int (2 : Int32)), .val (.int (1 : Int32)), .val (.long (0 : Int64)), .second] [(.int (v2 / (64 : Int32)))]))
        refine s_iload (pc' := 34) X_199.here hx (hb hby d3_32) rfl rfl ?_
        by_cases hc34_3 : ((v2 / (64 : Int32))).toInt = (1 : Int)
        · skip
          refine s_icmpNo (pc' := 37) X_199.here hx (hb hby d3_34) rfl (teqI (x := (v2 / (64 : Int32))) (y := (1 : Int32)) hc34_3).2 ?_
          refine s_lload (pc' := 39) X_199.here hx (hb hby d3_37) rfl rfl ?_
          refine s_lconst (pc' := 40) (z := (1 : Int64)) X_199.here hx (hb hby d3_39) rfl rfl ?_
          refine s_aloadN (pc' := 41) X_199.here hx (hb hby d3_40) rfl rfl rfl ?_
          refine s_iload (pc' := 43) X_199.here hx (hb hby d3_41) rfl rfl ?_
          obtain ⟨cl_203, Ar_203, q_203, S_203, N_203, H_203, G_203⟩ := id V_b
          have hi_203 : ¬ ((2 : Int32) < 0 ∨ cl_203.slots.size ≤ ((2 : Int32)).toNatClampNeg) := inb_of S_203 ⟨by decide, by decide⟩
          refine Win.go (fun _ k => X_199.iaload hx (j := (2 : Int32)) (v := (.int v2)) (by rw [e_199]; exact Ar_203.1) (State.isArrayOf_alike hZ.alike Ar_203.2.1) Ar_203.2.2 hi_203 (H_203.at hi_203 rfl) (g := (mkF m 43 #[.val (.ref a), .val (.ref b), .val (.long t0), .second, .val (.int (2 : Int32)), .val (.int (1 : Int32)), .val (.long (0 : Int64)), .second] [(.int (2 : Int32)), (.ref b), (.long (1 : Int64)), (.long (0 : Int64))])) rfl rfl (hb hby d3_43) _ k) ?_
          show Win p.tables e below _ (T_199.setTop (mkF m 44 #[.val (.ref a), .val (.ref b), .val (.long t0), .second, .val (.int (2 : Int32)), .val (.int (1 : Int32)), .val (.long (0 : Int64)), .second] [(.int v2), (.long (1 : Int64)), (.long (0 : Int64))]))
          clear Ar_203 q_203 S_203 N_203 H_203 G_203 hi_203
          refine s_bipush (pc' := 46) (z := (64 : Int32)) X_199.here hx (hb hby d3_44) rfl rfl ?_
          refine Win.go (fun _ k => iremM X_199 hx rfl (hb hby d3_46) rfl (by decide) k) ?_
          show Win p.tables e below _ (T_199.setTop (mkF m 47 #[.val (.ref a), .val (.ref b), .val (.long t0), .second, .val (.int (2 : Int32)), .val (.int (1 : Int32)), .val (.long (0 : Int64)), .second] [(.int (v2 % (64 : Int32))), (.long (1 : Int64)), (.long (0 : Int64))]))
          refine Win.go (fun _ k => XT.lshl X_199.here hx rfl (hb hby d3_47) rfl k) ?_
          show Win p.tables e below _ (T_199.setTop (mkF m 48 #[.val (.ref a), .val (.ref b), .val (.long t0), .second, .val (.int (2 : Int32)), .val (.int (1 : Int32)), .val (.long (0 : Int64)), .second] [(.long ((1 : Int64) <<< ((v2 % (64 : Int32)).toInt64 &&& 63))), (.long (0 : Int64))]))
          refine s_lor (pc' := 49) X_199.here hx (hb hby d3_48) rfl ?_
          refine s_lstore (pc' := 51) (l' := #[.val (.ref a), .val (.ref b), .val (.long t0), .second, .val (.int (2 : Int32)), .val (.int (1 : Int32)), .val (.long ((0 : Int64) ||| ((1 : Int64) <<< ((v2 % (64 : Int32)).toInt64 &&& 63)))), .second]) X_199.here hx (hb hby d3_49) rfl rfl ?_
          generalize hmk1_2 : ((0 : Int64) ||| ((1 : Int64) <<< ((v2 % (64 : Int32)).toInt64 &&& 63))) = mk1_2
          show Win p.tables e below _ (T_199.setTop (mkF m 51 #[.val (.ref a), .val (.ref b), .val (.long t0), .second, .val (.int (2 : Int32)), .val (.int (1 : Int32)), .val (.long mk1_2), .second] []))
          refine Win.go (fun _ k => XS.iinc X_199.here hx rfl (hb hby d3_51) rfl (l' := #[.val (.ref a), .val (.ref b), .val (.long t0), .second, .val (.int (3 : Int32)), .val (.int (1 : Int32)), .val (.long mk1_2), .second]) rfl k) ?_
          show Win p.tables e below _ (T_199.setTop (mkF m 54 #[.val (.ref a), .val (.ref b), .val (.long t0), .second, .val (.int (3 : Int32)), .val (.int (1 : Int32)), .val (.long mk1_2), .second] []))
          refine s_goto (pc' := 18) X_199.here hx (hb hby d3_54) (by decide) (by decide) ?_
          refine s_iload (pc' := 20) X_199.here hx (hb hby d3_18) rfl rfl ?_
          refine s_aloadN (pc' := 21) X_199.here hx (hb hby d3_20) rfl rfl rfl ?_
          obtain ⟨cl_204, Ar_204, q_204, S_204, N_204, H_204, G_204⟩ := id V_b
          refine Win.go (fun _ k => X_199.arraylength hx (by rw [e_199]; exact Ar_204.1) (State.isArrayOf_alike hZ.alike Ar_204.2.1) (g := (mkF m 21 #[.val (.ref a), .val (.ref b), .val (.long t0), .second, .val (.int (3 : Int32)), .val (.int (1 : Int32)), .val (.long mk1_2), .second] [(.ref b), (.int (3 : Int32))])) rfl rfl (hb hby d3_21) _ k) ?_
          rw [len_of S_204 N_204]
          clear Ar_204 q_204 S_204 N_204 H_204 G_204
          show Win p.tables e below _ (T_199.setTop (mkF m 22 #[.val (.ref a), .val (.ref b), .val (.long t0), .second, .val (.int (3 : Int32)), .val (.int (1 : Int32)), .val (.long mk1_2), .second] [(.int (4 : Int32)), (.int (3 : Int32))]))
          refine s_icmpNo (pc' := 25) X_199.here hx (hb hby d3_22) rfl (tltI (x := (3 : Int32)) (y := (4 : Int32)) (by decide)).2.1 ?_
          refine s_aloadN (pc' := 26) X_199.here hx (hb hby d3_25) rfl rfl rfl ?_
          refine s_iload (pc' := 28) X_199.here hx (hb hby d3_26) rfl rfl ?_
          obtain ⟨cl_205, Ar_205, q_205, S_205, N_205, H_205, G_205⟩ := id V_b
          have hi_205 : ¬ ((3 : Int32) < 0 ∨ cl_205.slots.size ≤ ((3 : Int32)).toNatClampNeg) := inb_of S_205 ⟨by decide, by decide⟩
          refine Win.go (fun _ k => X_199.iaload hx (j := (3 : Int32)) (v := (.int v3)) (by rw [e_199]; exact Ar_205.1) (State.isArrayOf_alike hZ.alike Ar_205.2.1) Ar_205.2.2 hi_205 (H_205.at hi_205 rfl) (g := (mkF m 28 #[.val (.ref a), .val (.ref b), .val (.long t0), .second, .val (.int (3 : Int32)), .val (.int (1 : Int32)), .val (.long mk1_2), .second] [(.int (3 : Int32)), (.ref b)])) rfl rfl (hb hby d3_28) _ k) ?_
          show Win p.tables e below _ (T_199.setTop (mkF m 29 #[.val (.ref a), .val (.ref b), .val (.long t0), .second, .val (.int (3 : Int32)), .val (.int (1 : Int32)), .val (.long mk1_2), .second] [(.int v3)]))
          clear Ar_205 q_205 S_205 N_205 H_205 G_205 hi_205
          refine s_bipush (pc' := 31) (z := (64 : Int32)) X_199.here hx (hb hby d3_29) rfl rfl ?_
          refine Win.go (fun _ k => XS.idiv X_199.here hx rfl (hb hby d3_31) rfl (by decide) k) ?_
          show Win p.tables e below _ (T_199.setTop (mkF m 32 #[.val (.ref a), .val (.ref b), .val (.long t0), .second, .val (.int (3 : Int32)), .val (.int (1 : Int32)), .val (.long mk1_2), .second] [(.int (v3 / (64 : Int32)))]))
          refine s_iload (pc' := 34) X_199.here hx (hb hby d3_32) rfl rfl ?_
          by_cases hc34_4 : ((v3 / (64 : Int32))).toInt = (1 : Int)
          · skip
            refine s_icmpNo (pc' := 37) X_199.here hx (hb hby d3_34) rfl (teqI (x := (v3 / (64 : Int32))) (y := (1 : Int32)) hc34_4).2 ?_
            refine s_lload (pc' := 39) X_199.here hx (hb hby d3_37) rfl rfl ?_
            refine s_lconst (pc' := 40) (z := (1 : Int64)) X_199.here hx (hb hby d3_39) rfl rfl ?_
            refine s_aloadN (pc' := 41) X_199.here hx (hb hby d3_40) rfl rfl rfl ?_
            refine s_iload (pc' := 43) X_199.here hx (hb hby d3_41) rfl rfl ?_
            obtain ⟨cl_206, Ar_206, q_206, S_206, N_206, H_206, G_206⟩ := id V_b
            have hi_206 : ¬ ((3 : Int32) < 0 ∨ cl_206.slots.size ≤ ((3 : Int32)).toNatClampNeg) := inb_of S_206 ⟨by decide, by decide⟩
            refine Win.go (fun _ k => X_199.iaload hx (j := (3 : Int32)) (v := (.int v3)) (by rw [e_199]; exact Ar_206.1) (State.isArrayOf_alike hZ.alike Ar_206.2.1) Ar_206.2.2 hi_206 (H_206.at hi_206 rfl) (g := (mkF m 43 #[.val (.ref a), .val (.ref b), .val (.long t0), .second, .val (.int (3 : Int32)), .val (.int (1 : Int32)), .val (.long mk1_2), .second] [(.int (3 : Int32)), (.ref b), (.long (1 : Int64)), (.long mk1_2)])) rfl rfl (hb hby d3_43) _ k) ?_
            show Win p.tables e below _ (T_199.setTop (mkF m 44 #[.val (.ref a), .val (.ref b), .val (.long t0), .second, .val (.int (3 : Int32)), .val (.int (1 : Int32)), .val (.long mk1_2), .second] [(.int v3), (.long (1 : Int64)), (.long mk1_2)]))
            clear Ar_206 q_206 S_206 N_206 H_206 G_206 hi_206
            refine s_bipush (pc' := 46) (z := (64 : Int32)) X_199.here hx (hb hby d3_44) rfl rfl ?_
            refine Win.go (fun _ k => iremM X_199 hx rfl (hb hby d3_46) rfl (by decide) k) ?_
            show Win p.tables e below _ (T_199.setTop (mkF m 47 #[.val (.ref a), .val (.ref b), .val (.long t0), .second, .val (.int (3 : Int32)), .val (.int (1 : Int32)), .val (.long mk1_2), .second] [(.int (v3 % (64 : Int32))), (.long (1 : Int64)), (.long mk1_2)]))
            refine Win.go (fun _ k => XT.lshl X_199.here hx rfl (hb hby d3_47) rfl k) ?_
            show Win p.tables e below _ (T_199.setTop (mkF m 48 #[.val (.ref a), .val (.ref b), .val (.long t0), .second, .val (.int (3 : Int32)), .val (.int (1 : Int32)), .val (.long mk1_2), .second] [(.long ((1 : Int64) <<< ((v3 % (64 : Int32)).toInt64 &&& 63))), (.long mk1_2)]))
            refine s_lor (pc' := 49) X_199.here hx (hb hby d3_48) rfl ?_
            refine s_lstore (pc' := 51) (l' := #[.val (.ref a), .val (.ref b), .val (.long t0), .second, .val (.int (3 : Int32)), .val (.int (1 : Int32)), .val (.long (mk1_2 ||| ((1 : Int64) <<< ((v3 % (64 : Int32)).toInt64 &&& 63)))), .second]) X_199.here hx (hb hby d3_49) rfl rfl ?_
            generalize hmk1_3 : (mk1_2 ||| ((1 : Int64) <<< ((v3 % (64 : Int32)).toInt64 &&& 63))) = mk1_3
            show Win p.tables e below _ (T_199.setTop (mkF m 51 #[.val (.ref a), .val (.ref b), .val (.long t0), .second, .val (.int (3 : Int32)), .val (.int (1 : Int32)), .val (.long mk1_3), .second] []))
            refine Win.go (fun _ k => XS.iinc X_199.here hx rfl (hb hby d3_51) rfl (l' := #[.val (.ref a), .val (.ref b), .val (.long t0), .second, .val (.int (4 : Int32)), .val (.int (1 : Int32)), .val (.long mk1_3), .second]) rfl k) ?_
            show Win p.tables e below _ (T_199.setTop (mkF m 54 #[.val (.ref a), .val (.ref b), .val (.long t0), .second, .val (.int (4 : Int32)), .val (.int (1 : Int32)), .val (.long mk1_3), .second] []))
            refine s_goto (pc' := 18) X_199.here hx (hb hby d3_54) (by decide) (by decide) ?_
            refine s_iload (pc' := 20) X_199.here hx (hb hby d3_18) rfl rfl ?_
            refine s_aloadN (pc' := 21) X_199.here hx (hb hby d3_20) rfl rfl rfl ?_
            obtain ⟨cl_207, Ar_207, q_207, S_207, N_207, H_207, G_207⟩ := id V_b
            refine Win.go (fun _ k => X_199.arraylength hx (by rw [e_199]; exact Ar_207.1) (State.isArrayOf_alike hZ.alike Ar_207.2.1) (g := (mkF m 21 #[.val (.ref a), .val (.ref b), .val (.long t0), .second, .val (.int (4 : Int32)), .val (.int (1 : Int32)), .val (.long mk1_3), .second] [(.ref b), (.int (4 : Int32))])) rfl rfl (hb hby d3_21) _ k) ?_
            rw [len_of S_207 N_207]
            clear Ar_207 q_207 S_207 N_207 H_207 G_207
            show Win p.tables e below _ (T_199.setTop (mkF m 22 #[.val (.ref a), .val (.ref b), .val (.long t0), .second, .val (.int (4 : Int32)), .val (.int (1 : Int32)), .val (.long mk1_3), .second] [(.int (4 : Int32)), (.int (4 : Int32))]))
            refine s_icmpYes (pc' := 57) X_199.here hx (hb hby d3_22) (fltI (x := (4 : Int32)) (y := (4 : Int32)) (by decide)).2.1 (by decide) (by decide) ?_
            refine s_lloadN (pc' := 58) X_199.here hx (hb hby d3_57) rfl rfl ?_
            refine s_aloadN (pc' := 59) X_199.here hx (hb hby d3_58) rfl rfl rfl ?_
            refine s_iload (pc' := 61) X_199.here hx (hb hby d3_59) rfl rfl ?_
            obtain ⟨cl_208, Ar_208, q_208, S_208, N_208, H_208, G_208⟩ := id V_a
            have hi_208 : ¬ ((1 : Int32) < 0 ∨ cl_208.slots.size ≤ ((1 : Int32)).toNatClampNeg) := inb_of S_208 ⟨by decide, by decide⟩
            refine Win.go (fun _ k => X_199.laload hx (j := (1 : Int32)) (v := (.long u1)) (by rw [e_199]; exact Ar_208.1) (State.isArrayOf_alike hZ.alike Ar_208.2.1) Ar_208.2.2 hi_208 (H_208.at hi_208 rfl) (g := (mkF m 61 #[.val (.ref a), .val (.ref b), .val (.long t0), .second, .val (.int (4 : Int32)), .val (.int (1 : Int32)), .val (.long mk1_3), .second] [(.int (1 : Int32)), (.ref a), (.long t0)])) rfl rfl (hb hby d3_61) _ k) ?_
            show Win p.tables e below _ (T_199.setTop (mkF m 62 #[.val (.ref a), .val (.ref b), .val (.long t0), .second, .val (.int (4 : Int32)), .val (.int (1 : Int32)), .val (.long mk1_3), .second] [(.long u1), (.long t0)]))
            clear Ar_208 q_208 S_208 N_208 H_208 G_208 hi_208
            refine s_lload (pc' := 64) X_199.here hx (hb hby d3_62) rfl rfl ?_
            refine Win.go (fun _ k => X_199.ldc2Long hx hown (mvT hZ (hw _ (List.mem_of_getElem? (i := 14) rfl))) (g := (mkF m 64 #[.val (.ref a), .val (.ref b), .val (.long t0), .second, .val (.int (4 : Int32)), .val (.int (1 : Int32)), .val (.long mk1_3), .second] [(.long mk1_3), (.long u1), (.long t0)])) rfl (hb hby d3_64) _ k) ?_
            show Win p.tables e below _ (T_199.setTop (mkF m 67 #[.val (.ref a), .val (.ref b), .val (.long t0), .second, .val (.int (4 : Int32)), .val (.int (1 : Int32)), .val (.long mk1_3), .second] [(.long (-1 : Int64)), (.long mk1_3), (.long u1), (.long t0)]))
            refine s_lxor (pc' := 68) X_199.here hx (hb hby d3_67) rfl ?_
            refine s_land (pc' := 69) X_199.here hx (hb hby d3_68) rfl ?_
            refine s_lor (pc' := 70) X_199.here hx (hb hby d3_69) rfl ?_
            refine s_lstoreN (pc' := 71) (l' := #[.val (.ref a), .val (.ref b), .val (.long (t0 ||| (u1 &&& (mk1_3 ^^^ (-1 : Int64))))), .second, .val (.int (4 : Int32)), .val (.int (1 : Int32)), .val (.long mk1_3), .second]) X_199.here hx (hb hby d3_70) rfl rfl ?_
            generalize ht1 : (t0 ||| (u1 &&& (mk1_3 ^^^ (-1 : Int64)))) = t1
            show Win p.tables e below _ (T_199.setTop (mkF m 71 #[.val (.ref a), .val (.ref b), .val (.long t1), .second, .val (.int (4 : Int32)), .val (.int (1 : Int32)), .val (.long mk1_3), .second] []))
            refine s_aloadN (pc' := 72) X_199.here hx (hb hby d3_71) rfl rfl rfl ?_
            refine s_iload (pc' := 74) X_199.here hx (hb hby d3_72) rfl rfl ?_
            refine Win.go (fun _ k => XT.dup2 X_199.here hx rfl (hb hby d3_74) rfl rfl rfl k) ?_
            show Win p.tables e below _ (T_199.setTop (mkF m 75 #[.val (.ref a), .val (.ref b), .val (.long t1), .second, .val (.int (4 : Int32)), .val (.int (1 : Int32)), .val (.long mk1_3), .second] [(.int (1 : Int32)), (.ref a), (.int (1 : Int32)), (.ref a)]))
            obtain ⟨cl_209, Ar_209, q_209, S_209, N_209, H_209, G_209⟩ := id V_a
            have hi_209 : ¬ ((1 : Int32) < 0 ∨ cl_209.slots.size ≤ ((1 : Int32)).toNatClampNeg) := inb_of S_209 ⟨by decide, by decide⟩
            refine Win.go (fun _ k => X_199.laload hx (j := (1 : Int32)) (v := (.long u1)) (by rw [e_199]; exact Ar_209.1) (State.isArrayOf_alike hZ.alike Ar_209.2.1) Ar_209.2.2 hi_209 (H_209.at hi_209 rfl) (g := (mkF m 75 #[.val (.ref a), .val (.ref b), .val (.long t1), .second, .val (.int (4 : Int32)), .val (.int (1 : Int32)), .val (.long mk1_3), .second] [(.int (1 : Int32)), (.ref a), (.int (1 : Int32)), (.ref a)])) rfl rfl (hb hby d3_75) _ k) ?_
            show Win p.tables e below _ (T_199.setTop (mkF m 76 #[.val (.ref a), .val (.ref b), .val (.long t1), .second, .val (.int (4 : Int32)), .val (.int (1 : Int32)), .val (.long mk1_3), .second] [(.long u1), (.int (1 : Int32)), (.ref a)]))
            clear Ar_209 q_209 S_209 N_209 H_209 G_209 hi_209
            refine s_lload (pc' := 78) X_199.here hx (hb hby d3_76) rfl rfl ?_
            refine s_land (pc' := 79) X_199.here hx (hb hby d3_78) rfl ?_
            obtain ⟨cl_210, Ar_210, q_210, S_210, N_210, H_210, G_210⟩ := V_a
            obtain ⟨T_210, h_210, X_210, e_210, W_210, st_210⟩ := stJ X_199 hx hZ e_199 Ar_210 (j := (1 : Int32)) (inb_of S_210 ⟨by decide, by decide⟩) (g := (mkF m 79 #[.val (.ref a), .val (.ref b), .val (.long t1), .second, .val (.int (4 : Int32)), .val (.int (1 : Int32)), .val (.long mk1_3), .second] [(.long (u1 &&& mk1_3)), (.int (1 : Int32)), (.ref a)])) rfl rfl (hb hby d3_79)
            have V_210 := Arv.set Ar_210 q_210 S_210 N_210 H_210 G_210 rfl W_210 1 rfl (Nat.le_of_ble_eq_true rfl)
            replace V_b := V_b.other W_210 ne_b_a
            replace lt_a := Nat.lt_of_lt_of_le lt_a (Keep.of_wr W_210).1
            replace lt_b := Nat.lt_of_lt_of_le lt_b (Keep.of_wr W_210).1
            replace Zs := Nat.le_trans Zs (Keep.of_wr W_210).1
            replace Kp := Kp.wr W_210 (Or.inl (by simp))
            replace V_a : Arv Z h_210 a ka .long (2 : Int32) [(.long (u0 &&& mk0_1)), (.long (u1 &&& mk1_3))] (.long (0 : Int64)) := V_210
            replace Nf := Fr.snoc X_210 Nf g_a
            refine Win.go st_210 ?_
            clear st_210 W_210 V_210 Ar_210 q_210 S_210 N_210 H_210 G_210 X_199 e_199
            show Win p.tables e below _ (T_210.setTop (mkF m 80 #[.val (.ref a), .val (.ref b), .val (.long t1), .second, .val (.int (4 : Int32)), .val (.int (1 : Int32)), .val (.long mk1_3), .second] []))
            refine Win.go (fun _ k => XS.iinc X_210.here hx rfl (hb hby d3_80) rfl (l' := #[.val (.ref a), .val (.ref b), .val (.long t1), .second, .val (.int (4 : Int32)), .val (.int (2 : Int32)), .val (.long mk1_3), .second]) rfl k) ?_
            show Win p.tables e below _ (T_210.setTop (mkF m 83 #[.val (.ref a), .val (.ref b), .val (.long t1), .second, .val (.int (4 : Int32)), .val (.int (2 : Int32)), .val (.long mk1_3), .second] []))
            refine s_goto (pc' := 8) X_210.here hx (hb hby d3_83) (by decide) (by decide) ?_
            refine s_iload (pc' := 10) X_210.here hx (hb hby d3_8) rfl rfl ?_
            refine s_aloadN (pc' := 11) X_210.here hx (hb hby d3_10) rfl rfl rfl ?_
            obtain ⟨cl_211, Ar_211, q_211, S_211, N_211, H_211, G_211⟩ := id V_a
            refine Win.go (fun _ k => X_210.arraylength hx (by rw [e_210]; exact Ar_211.1) (State.isArrayOf_alike hZ.alike Ar_211.2.1) (g := (mkF m 11 #[.val (.ref a), .val (.ref b), .val (.long t1), .second, .val (.int (4 : Int32)), .val (.int (2 : Int32)), .val (.long mk1_3), .second] [(.ref a), (.int (2 : Int32))])) rfl rfl (hb hby d3_11) _ k) ?_
            rw [len_of S_211 N_211]
            clear Ar_211 q_211 S_211 N_211 H_211 G_211
            show Win p.tables e below _ (T_210.setTop (mkF m 12 #[.val (.ref a), .val (.ref b), .val (.long t1), .second, .val (.int (4 : Int32)), .val (.int (2 : Int32)), .val (.long mk1_3), .second] [(.int (2 : Int32)), (.int (2 : Int32))]))
            refine s_icmpYes (pc' := 86) X_210.here hx (hb hby d3_12) (fltI (x := (2 : Int32)) (y := (2 : Int32)) (by decide)).2.1 (by decide) (by decide) ?_
            refine s_lloadN (pc' := 87) X_210.here hx (hb hby d3_86) rfl rfl ?_
            refine s_lconst (pc' := 88) (z := (0 : Int64)) X_210.here hx (hb hby d3_87) rfl rfl ?_
            refine s_lcmp (pc' := 89) X_210.here hx (hb hby d3_88) rfl ?_
            by_cases hc89_5 : (t1).toInt = (0 : Int)
            · skip
              refine s_ifYes (pc' := 96) X_210.here hx (hb hby d3_89) (teqL (x := t1) (y := (0 : Int64)) hc89_5).1 (by decide) (by decide) ?_
              refine s_iconst (pc' := 97) (z := (0 : Int32)) X_210.here hx (hb hby d3_96) rfl rfl ?_
              refine winN X_210 hx hlk e_210 (t := .boolean) Bd.returns (by simp) (hb hby d3_97) (by decide) (by decide) (z' := (0 : Int32)) rfl ?_
              have e0 := own_lo (v := v0) (by omega) (by omega)
              have e1 := own_lo (v := v1) (by omega) (by omega)
              have e2 := own_hi (v := v2) (by omega) (by omega)
              have e3 := own_hi (v := v3) (by omega) (by omega)
              have mA : ((((bit0 v0) ||| (bit0 v1)) ||| (bit0 v2)) ||| (bit0 v3)) = mk0_1 := by rw [← hmk0_1, ← hmk0_0]; simp only [e0.1, e0.2, e1.1, e1.2, e2.1, e2.2, e3.1, e3.2, Int64.or_zero, Int64.zero_or]
              have mB : ((((bit1 v0) ||| (bit1 v1)) ||| (bit1 v2)) ||| (bit1 v3)) = mk1_3 := by rw [← hmk1_3, ← hmk1_2]; simp only [e0.1, e0.2, e1.1, e1.2, e2.1, e2.2, e3.1, e3.2, Int64.or_zero, Int64.zero_or]
              have tt : (((0 : Int64) ||| (u0 &&& (((((bit0 v0) ||| (bit0 v1)) ||| (bit0 v2)) ||| (bit0 v3)) ^^^ (-1 : Int64)))) ||| (u1 &&& (((((bit1 v0) ||| (bit1 v1)) ||| (bit1 v2)) ||| (bit1 v3)) ^^^ (-1 : Int64)))) = t1 := by rw [mA, mB, ht0, ht1]
              refine ⟨Nf, Kp, by rw [mA, mB]; exact V_a, _, rfl, Or.inr ⟨rfl, ?_⟩⟩
              rw [tt]
              exact fun q => q hc89_5
            · skip
              refine s_ifNo (pc' := 92) X_210.here hx (hb hby d3_89) rfl (feqL (x := t1) (y := (0 : Int64)) hc89_5).1 ?_
              refine s_iconst (pc' := 93) (z := (1 : Int32)) X_210.here hx (hb hby d3_92) rfl rfl ?_
              refine s_goto (pc' := 97) X_210.here hx (hb hby d3_93) (by decide) (by decide) ?_
              refine winN X_210 hx hlk e_210 (t := .boolean) Bd.returns (by simp) (hb hby d3_97) (by decide) (by decide) (z' := (1 : Int32)) rfl ?_
              have e0 := own_lo (v := v0) (by omega) (by omega)
              have e1 := own_lo (v := v1) (by omega) (by omega)
              have e2 := own_hi (v := v2) (by omega) (by omega)
              have e3 := own_hi (v := v3) (by omega) (by omega)
              have mA : ((((bit0 v0) ||| (bit0 v1)) ||| (bit0 v2)) ||| (bit0 v3)) = mk0_1 := by rw [← hmk0_1, ← hmk0_0]; simp only [e0.1, e0.2, e1.1, e1.2, e2.1, e2.2, e3.1, e3.2, Int64.or_zero, Int64.zero_or]
              have mB : ((((bit1 v0) ||| (bit1 v1)) ||| (bit1 v2)) ||| (bit1 v3)) = mk1_3 := by rw [← hmk1_3, ← hmk1_2]; simp only [e0.1, e0.2, e1.1, e1.2, e2.1, e2.2, e3.1, e3.2, Int64.or_zero, Int64.zero_or]
              have tt : (((0 : Int64) ||| (u0 &&& (((((bit0 v0) ||| (bit0 v1)) ||| (bit0 v2)) ||| (bit0 v3)) ^^^ (-1 : Int64)))) ||| (u1 &&& (((((bit1 v0) ||| (bit1 v1)) ||| (bit1 v2)) ||| (bit1 v3)) ^^^ (-1 : Int64)))) = t1 := by rw [mA, mB, ht0, ht1]
              refine ⟨Nf, Kp, by rw [mA, mB]; exact V_a, _, rfl, Or.inl ⟨rfl, ?_⟩⟩
              rw [tt]
              exact hc89_5
          · skip
            exfalso
            omega
        · skip
          exfalso
          omega
    · skip
      refine s_icmpYes (pc' := 57) X0.here hx (hb hby d3_34) (feqI (x := (v1 / (64 : Int32))) (y := (0 : Int32)) hc34_1).2 (by decide) (by decide) ?_
      refine s_lloadN (pc' := 58) X0.here hx (hb hby d3_57) rfl rfl ?_
      refine s_aloadN (pc' := 59) X0.here hx (hb hby d3_58) rfl rfl rfl ?_
      refine s_iload (pc' := 61) X0.here hx (hb hby d3_59) rfl rfl ?_
      obtain ⟨cl_212, Ar_212, q_212, S_212, N_212, H_212, G_212⟩ := id V_a
      have hi_212 : ¬ ((0 : Int32) < 0 ∨ cl_212.slots.size ≤ ((0 : Int32)).toNatClampNeg) := inb_of S_212 ⟨by decide, by decide⟩
      refine Win.go (fun _ k => X0.laload hx (j := (0 : Int32)) (v := (.long u0)) (by rw [e0]; exact Ar_212.1) (State.isArrayOf_alike hZ.alike Ar_212.2.1) Ar_212.2.2 hi_212 (H_212.at hi_212 rfl) (g := (mkF m 61 #[.val (.ref a), .val (.ref b), .val (.long (0 : Int64)), .second, .val (.int (1 : Int32)), .val (.int (0 : Int32)), .val (.long mk0_0), .second] [(.int (0 : Int32)), (.ref a), (.long (0 : Int64))])) rfl rfl (hb hby d3_61) _ k) ?_
      show Win p.tables e below _ (s₁.setTop (mkF m 62 #[.val (.ref a), .val (.ref b), .val (.long (0 : Int64)), .second, .val (.int (1 : Int32)), .val (.int (0 : Int32)), .val (.long mk0_0), .second] [(.long u0), (.long (0 : Int64))]))
      clear Ar_212 q_212 S_212 N_212 H_212 G_212 hi_212
      refine s_lload (pc' := 64) X0.here hx (hb hby d3_62) rfl rfl ?_
      refine Win.go (fun _ k => X0.ldc2Long hx hown (mvT hZ (hw _ (List.mem_of_getElem? (i := 14) rfl))) (g := (mkF m 64 #[.val (.ref a), .val (.ref b), .val (.long (0 : Int64)), .second, .val (.int (1 : Int32)), .val (.int (0 : Int32)), .val (.long mk0_0), .second] [(.long mk0_0), (.long u0), (.long (0 : Int64))])) rfl (hb hby d3_64) _ k) ?_
      show Win p.tables e below _ (s₁.setTop (mkF m 67 #[.val (.ref a), .val (.ref b), .val (.long (0 : Int64)), .second, .val (.int (1 : Int32)), .val (.int (0 : Int32)), .val (.long mk0_0), .second] [(.long (-1 : Int64)), (.long mk0_0), (.long u0), (.long (0 : Int64))]))
      refine s_lxor (pc' := 68) X0.here hx (hb hby d3_67) rfl ?_
      refine s_land (pc' := 69) X0.here hx (hb hby d3_68) rfl ?_
      refine s_lor (pc' := 70) X0.here hx (hb hby d3_69) rfl ?_
      refine s_lstoreN (pc' := 71) (l' := #[.val (.ref a), .val (.ref b), .val (.long ((0 : Int64) ||| (u0 &&& (mk0_0 ^^^ (-1 : Int64))))), .second, .val (.int (1 : Int32)), .val (.int (0 : Int32)), .val (.long mk0_0), .second]) X0.here hx (hb hby d3_70) rfl rfl ?_
      generalize ht0 : ((0 : Int64) ||| (u0 &&& (mk0_0 ^^^ (-1 : Int64)))) = t0
      show Win p.tables e below _ (s₁.setTop (mkF m 71 #[.val (.ref a), .val (.ref b), .val (.long t0), .second, .val (.int (1 : Int32)), .val (.int (0 : Int32)), .val (.long mk0_0), .second] []))
      refine s_aloadN (pc' := 72) X0.here hx (hb hby d3_71) rfl rfl rfl ?_
      refine s_iload (pc' := 74) X0.here hx (hb hby d3_72) rfl rfl ?_
      refine Win.go (fun _ k => XT.dup2 X0.here hx rfl (hb hby d3_74) rfl rfl rfl k) ?_
      show Win p.tables e below _ (s₁.setTop (mkF m 75 #[.val (.ref a), .val (.ref b), .val (.long t0), .second, .val (.int (1 : Int32)), .val (.int (0 : Int32)), .val (.long mk0_0), .second] [(.int (0 : Int32)), (.ref a), (.int (0 : Int32)), (.ref a)]))
      obtain ⟨cl_213, Ar_213, q_213, S_213, N_213, H_213, G_213⟩ := id V_a
      have hi_213 : ¬ ((0 : Int32) < 0 ∨ cl_213.slots.size ≤ ((0 : Int32)).toNatClampNeg) := inb_of S_213 ⟨by decide, by decide⟩
      refine Win.go (fun _ k => X0.laload hx (j := (0 : Int32)) (v := (.long u0)) (by rw [e0]; exact Ar_213.1) (State.isArrayOf_alike hZ.alike Ar_213.2.1) Ar_213.2.2 hi_213 (H_213.at hi_213 rfl) (g := (mkF m 75 #[.val (.ref a), .val (.ref b), .val (.long t0), .second, .val (.int (1 : Int32)), .val (.int (0 : Int32)), .val (.long mk0_0), .second] [(.int (0 : Int32)), (.ref a), (.int (0 : Int32)), (.ref a)])) rfl rfl (hb hby d3_75) _ k) ?_
      show Win p.tables e below _ (s₁.setTop (mkF m 76 #[.val (.ref a), .val (.ref b), .val (.long t0), .second, .val (.int (1 : Int32)), .val (.int (0 : Int32)), .val (.long mk0_0), .second] [(.long u0), (.int (0 : Int32)), (.ref a)]))
      clear Ar_213 q_213 S_213 N_213 H_213 G_213 hi_213
      refine s_lload (pc' := 78) X0.here hx (hb hby d3_76) rfl rfl ?_
      refine s_land (pc' := 79) X0.here hx (hb hby d3_78) rfl ?_
      obtain ⟨cl_214, Ar_214, q_214, S_214, N_214, H_214, G_214⟩ := V_a
      obtain ⟨T_214, h_214, X_214, e_214, W_214, st_214⟩ := stJ X0 hx hZ e0 Ar_214 (j := (0 : Int32)) (inb_of S_214 ⟨by decide, by decide⟩) (g := (mkF m 79 #[.val (.ref a), .val (.ref b), .val (.long t0), .second, .val (.int (1 : Int32)), .val (.int (0 : Int32)), .val (.long mk0_0), .second] [(.long (u0 &&& mk0_0)), (.int (0 : Int32)), (.ref a)])) rfl rfl (hb hby d3_79)
      have V_214 := Arv.set Ar_214 q_214 S_214 N_214 H_214 G_214 rfl W_214 0 rfl (Nat.le_of_ble_eq_true rfl)
      replace V_b := V_b.other W_214 ne_b_a
      replace lt_a := Nat.lt_of_lt_of_le lt_a (Keep.of_wr W_214).1
      replace lt_b := Nat.lt_of_lt_of_le lt_b (Keep.of_wr W_214).1
      replace Zs := Nat.le_trans Zs (Keep.of_wr W_214).1
      replace Kp := Kp.wr W_214 (Or.inl (by simp))
      replace V_a : Arv Z h_214 a ka .long (2 : Int32) [(.long (u0 &&& mk0_0)), (.long u1)] (.long (0 : Int64)) := V_214
      replace Nf := Fr.snoc X_214 Nf g_a
      refine Win.go st_214 ?_
      clear st_214 W_214 V_214 Ar_214 q_214 S_214 N_214 H_214 G_214 X0 e0
      show Win p.tables e below _ (T_214.setTop (mkF m 80 #[.val (.ref a), .val (.ref b), .val (.long t0), .second, .val (.int (1 : Int32)), .val (.int (0 : Int32)), .val (.long mk0_0), .second] []))
      refine Win.go (fun _ k => XS.iinc X_214.here hx rfl (hb hby d3_80) rfl (l' := #[.val (.ref a), .val (.ref b), .val (.long t0), .second, .val (.int (1 : Int32)), .val (.int (1 : Int32)), .val (.long mk0_0), .second]) rfl k) ?_
      show Win p.tables e below _ (T_214.setTop (mkF m 83 #[.val (.ref a), .val (.ref b), .val (.long t0), .second, .val (.int (1 : Int32)), .val (.int (1 : Int32)), .val (.long mk0_0), .second] []))
      refine s_goto (pc' := 8) X_214.here hx (hb hby d3_83) (by decide) (by decide) ?_
      refine s_iload (pc' := 10) X_214.here hx (hb hby d3_8) rfl rfl ?_
      refine s_aloadN (pc' := 11) X_214.here hx (hb hby d3_10) rfl rfl rfl ?_
      obtain ⟨cl_215, Ar_215, q_215, S_215, N_215, H_215, G_215⟩ := id V_a
      refine Win.go (fun _ k => X_214.arraylength hx (by rw [e_214]; exact Ar_215.1) (State.isArrayOf_alike hZ.alike Ar_215.2.1) (g := (mkF m 11 #[.val (.ref a), .val (.ref b), .val (.long t0), .second, .val (.int (1 : Int32)), .val (.int (1 : Int32)), .val (.long mk0_0), .second] [(.ref a), (.int (1 : Int32))])) rfl rfl (hb hby d3_11) _ k) ?_
      rw [len_of S_215 N_215]
      clear Ar_215 q_215 S_215 N_215 H_215 G_215
      show Win p.tables e below _ (T_214.setTop (mkF m 12 #[.val (.ref a), .val (.ref b), .val (.long t0), .second, .val (.int (1 : Int32)), .val (.int (1 : Int32)), .val (.long mk0_0), .second] [(.int (2 : Int32)), (.int (1 : Int32))]))
      refine s_icmpNo (pc' := 15) X_214.here hx (hb hby d3_12) rfl (tltI (x := (1 : Int32)) (y := (2 : Int32)) (by decide)).2.1 ?_
      refine s_lconst (pc' := 16) (z := (0 : Int64)) X_214.here hx (hb hby d3_15) rfl rfl ?_
      refine s_lstore (pc' := 18) (l' := #[.val (.ref a), .val (.ref b), .val (.long t0), .second, .val (.int (1 : Int32)), .val (.int (1 : Int32)), .val (.long (0 : Int64)), .second]) X_214.here hx (hb hby d3_16) rfl rfl ?_
      refine s_iload (pc' := 20) X_214.here hx (hb hby d3_18) rfl rfl ?_
      refine s_aloadN (pc' := 21) X_214.here hx (hb hby d3_20) rfl rfl rfl ?_
      obtain ⟨cl_216, Ar_216, q_216, S_216, N_216, H_216, G_216⟩ := id V_b
      refine Win.go (fun _ k => X_214.arraylength hx (by rw [e_214]; exact Ar_216.1) (State.isArrayOf_alike hZ.alike Ar_216.2.1) (g := (mkF m 21 #[.val (.ref a), .val (.ref b), .val (.long t0), .second, .val (.int (1 : Int32)), .val (.int (1 : Int32)), .val (.long (0 : Int64)), .second] [(.ref b), (.int (1 : Int32))])) rfl rfl (hb hby d3_21) _ k) ?_
      rw [len_of S_216 N_216]
      clear Ar_216 q_216 S_216 N_216 H_216 G_216
      show Win p.tables e below _ (T_214.setTop (mkF m 22 #[.val (.ref a), .val (.ref b), .val (.long t0), .second, .val (.int (1 : Int32)), .val (.int (1 : Int32)), .val (.long (0 : Int64)), .second] [(.int (4 : Int32)), (.int (1 : Int32))]))
      refine s_icmpNo (pc' := 25) X_214.here hx (hb hby d3_22) rfl (tltI (x := (1 : Int32)) (y := (4 : Int32)) (by decide)).2.1 ?_
      refine s_aloadN (pc' := 26) X_214.here hx (hb hby d3_25) rfl rfl rfl ?_
      refine s_iload (pc' := 28) X_214.here hx (hb hby d3_26) rfl rfl ?_
      obtain ⟨cl_217, Ar_217, q_217, S_217, N_217, H_217, G_217⟩ := id V_b
      have hi_217 : ¬ ((1 : Int32) < 0 ∨ cl_217.slots.size ≤ ((1 : Int32)).toNatClampNeg) := inb_of S_217 ⟨by decide, by decide⟩
      refine Win.go (fun _ k => X_214.iaload hx (j := (1 : Int32)) (v := (.int v1)) (by rw [e_214]; exact Ar_217.1) (State.isArrayOf_alike hZ.alike Ar_217.2.1) Ar_217.2.2 hi_217 (H_217.at hi_217 rfl) (g := (mkF m 28 #[.val (.ref a), .val (.ref b), .val (.long t0), .second, .val (.int (1 : Int32)), .val (.int (1 : Int32)), .val (.long (0 : Int64)), .second] [(.int (1 : Int32)), (.ref b)])) rfl rfl (hb hby d3_28) _ k) ?_
      show Win p.tables e below _ (T_214.setTop (mkF m 29 #[.val (.ref a), .val (.ref b), .val (.long t0), .second, .val (.int (1 : Int32)), .val (.int (1 : Int32)), .val (.long (0 : Int64)), .second] [(.int v1)]))
      clear Ar_217 q_217 S_217 N_217 H_217 G_217 hi_217
      refine s_bipush (pc' := 31) (z := (64 : Int32)) X_214.here hx (hb hby d3_29) rfl rfl ?_
      refine Win.go (fun _ k => XS.idiv X_214.here hx rfl (hb hby d3_31) rfl (by decide) k) ?_
      show Win p.tables e below _ (T_214.setTop (mkF m 32 #[.val (.ref a), .val (.ref b), .val (.long t0), .second, .val (.int (1 : Int32)), .val (.int (1 : Int32)), .val (.long (0 : Int64)), .second] [(.int (v1 / (64 : Int32)))]))
      refine s_iload (pc' := 34) X_214.here hx (hb hby d3_32) rfl rfl ?_
      by_cases hc34_2 : ((v1 / (64 : Int32))).toInt = (1 : Int)
      · skip
        refine s_icmpNo (pc' := 37) X_214.here hx (hb hby d3_34) rfl (teqI (x := (v1 / (64 : Int32))) (y := (1 : Int32)) hc34_2).2 ?_
        refine s_lload (pc' := 39) X_214.here hx (hb hby d3_37) rfl rfl ?_
        refine s_lconst (pc' := 40) (z := (1 : Int64)) X_214.here hx (hb hby d3_39) rfl rfl ?_
        refine s_aloadN (pc' := 41) X_214.here hx (hb hby d3_40) rfl rfl rfl ?_
        refine s_iload (pc' := 43) X_214.here hx (hb hby d3_41) rfl rfl ?_
        obtain ⟨cl_218, Ar_218, q_218, S_218, N_218, H_218, G_218⟩ := id V_b
        have hi_218 : ¬ ((1 : Int32) < 0 ∨ cl_218.slots.size ≤ ((1 : Int32)).toNatClampNeg) := inb_of S_218 ⟨by decide, by decide⟩
        refine Win.go (fun _ k => X_214.iaload hx (j := (1 : Int32)) (v := (.int v1)) (by rw [e_214]; exact Ar_218.1) (State.isArrayOf_alike hZ.alike Ar_218.2.1) Ar_218.2.2 hi_218 (H_218.at hi_218 rfl) (g := (mkF m 43 #[.val (.ref a), .val (.ref b), .val (.long t0), .second, .val (.int (1 : Int32)), .val (.int (1 : Int32)), .val (.long (0 : Int64)), .second] [(.int (1 : Int32)), (.ref b), (.long (1 : Int64)), (.long (0 : Int64))])) rfl rfl (hb hby d3_43) _ k) ?_
        show Win p.tables e below _ (T_214.setTop (mkF m 44 #[.val (.ref a), .val (.ref b), .val (.long t0), .second, .val (.int (1 : Int32)), .val (.int (1 : Int32)), .val (.long (0 : Int64)), .second] [(.int v1), (.long (1 : Int64)), (.long (0 : Int64))]))
        clear Ar_218 q_218 S_218 N_218 H_218 G_218 hi_218
        refine s_bipush (pc' := 46) (z := (64 : Int32)) X_214.here hx (hb hby d3_44) rfl rfl ?_
        refine Win.go (fun _ k => iremM X_214 hx rfl (hb hby d3_46) rfl (by decide) k) ?_
        show Win p.tables e below _ (T_214.setTop (mkF m 47 #[.val (.ref a), .val (.ref b), .val (.long t0), .second, .val (.int (1 : Int32)), .val (.int (1 : Int32)), .val (.long (0 : Int64)), .second] [(.int (v1 % (64 : Int32))), (.long (1 : Int64)), (.long (0 : Int64))]))
        refine Win.go (fun _ k => XT.lshl X_214.here hx rfl (hb hby d3_47) rfl k) ?_
        show Win p.tables e below _ (T_214.setTop (mkF m 48 #[.val (.ref a), .val (.ref b), .val (.long t0), .second, .val (.int (1 : Int32)), .val (.int (1 : Int32)), .val (.long (0 : Int64)), .second] [(.long ((1 : Int64) <<< ((v1 % (64 : Int32)).toInt64 &&& 63))), (.long (0 : Int64))]))
        refine s_lor (pc' := 49) X_214.here hx (hb hby d3_48) rfl ?_
        refine s_lstore (pc' := 51) (l' := #[.val (.ref a), .val (.ref b), .val (.long t0), .second, .val (.int (1 : Int32)), .val (.int (1 : Int32)), .val (.long ((0 : Int64) ||| ((1 : Int64) <<< ((v1 % (64 : Int32)).toInt64 &&& 63)))), .second]) X_214.here hx (hb hby d3_49) rfl rfl ?_
        generalize hmk1_1 : ((0 : Int64) ||| ((1 : Int64) <<< ((v1 % (64 : Int32)).toInt64 &&& 63))) = mk1_1
        show Win p.tables e below _ (T_214.setTop (mkF m 51 #[.val (.ref a), .val (.ref b), .val (.long t0), .second, .val (.int (1 : Int32)), .val (.int (1 : Int32)), .val (.long mk1_1), .second] []))
        refine Win.go (fun _ k => XS.iinc X_214.here hx rfl (hb hby d3_51) rfl (l' := #[.val (.ref a), .val (.ref b), .val (.long t0), .second, .val (.int (2 : Int32)), .val (.int (1 : Int32)), .val (.long mk1_1), .second]) rfl k) ?_
        show Win p.tables e below _ (T_214.setTop (mkF m 54 #[.val (.ref a), .val (.ref b), .val (.long t0), .second, .val (.int (2 : Int32)), .val (.int (1 : Int32)), .val (.long mk1_1), .second] []))
        refine s_goto (pc' := 18) X_214.here hx (hb hby d3_54) (by decide) (by decide) ?_
        refine s_iload (pc' := 20) X_214.here hx (hb hby d3_18) rfl rfl ?_
        refine s_aloadN (pc' := 21) X_214.here hx (hb hby d3_20) rfl rfl rfl ?_
        obtain ⟨cl_219, Ar_219, q_219, S_219, N_219, H_219, G_219⟩ := id V_b
        refine Win.go (fun _ k => X_214.arraylength hx (by rw [e_214]; exact Ar_219.1) (State.isArrayOf_alike hZ.alike Ar_219.2.1) (g := (mkF m 21 #[.val (.ref a), .val (.ref b), .val (.long t0), .second, .val (.int (2 : Int32)), .val (.int (1 : Int32)), .val (.long mk1_1), .second] [(.ref b), (.int (2 : Int32))])) rfl rfl (hb hby d3_21) _ k) ?_
        rw [len_of S_219 N_219]
        clear Ar_219 q_219 S_219 N_219 H_219 G_219
        show Win p.tables e below _ (T_214.setTop (mkF m 22 #[.val (.ref a), .val (.ref b), .val (.long t0), .second, .val (.int (2 : Int32)), .val (.int (1 : Int32)), .val (.long mk1_1), .second] [(.int (4 : Int32)), (.int (2 : Int32))]))
        refine s_icmpNo (pc' := 25) X_214.here hx (hb hby d3_22) rfl (tltI (x := (2 : Int32)) (y := (4 : Int32)) (by decide)).2.1 ?_
        refine s_aloadN (pc' := 26) X_214.here hx (hb hby d3_25) rfl rfl rfl ?_
        refine s_iload (pc' := 28) X_214.here hx (hb hby d3_26) rfl rfl ?_
        obtain ⟨cl_220, Ar_220, q_220, S_220, N_220, H_220, G_220⟩ := id V_b
        have hi_220 : ¬ ((2 : Int32) < 0 ∨ cl_220.slots.size ≤ ((2 : Int32)).toNatClampNeg) := inb_of S_220 ⟨by decide, by decide⟩
        refine Win.go (fun _ k => X_214.iaload hx (j := (2 : Int32)) (v := (.int v2)) (by rw [e_214]; exact Ar_220.1) (State.isArrayOf_alike hZ.alike Ar_220.2.1) Ar_220.2.2 hi_220 (H_220.at hi_220 rfl) (g := (mkF m 28 #[.val (.ref a), .val (.ref b), .val (.long t0), .second, .val (.int (2 : Int32)), .val (.int (1 : Int32)), .val (.long mk1_1), .second] [(.int (2 : Int32)), (.ref b)])) rfl rfl (hb hby d3_28) _ k) ?_
        show Win p.tables e below _ (T_214.setTop (mkF m 29 #[.val (.ref a), .val (.ref b), .val (.long t0), .second, .val (.int (2 : Int32)), .val (.int (1 : Int32)), .val (.long mk1_1), .second] [(.int v2)]))
        clear Ar_220 q_220 S_220 N_220 H_220 G_220 hi_220
        refine s_bipush (pc' := 31) (z := (64 : Int32)) X_214.here hx (hb hby d3_29) rfl rfl ?_
        refine Win.go (fun _ k => XS.idiv X_214.here hx rfl (hb hby d3_31) rfl (by decide) k) ?_
        show Win p.tables e below _ (T_214.setTop (mkF m 32 #[.val (.ref a), .val (.ref b), .val (.long t0), .second, .val (.int (2 : Int32)), .val (.int (1 : Int32)), .val (.long mk1_1), .second] [(.int (v2 / (64 : Int32)))]))
        refine s_iload (pc' := 34) X_214.here hx (hb hby d3_32) rfl rfl ?_
        by_cases hc34_3 : ((v2 / (64 : Int32))).toInt = (1 : Int)
        · skip
          refine s_icmpNo (pc' := 37) X_214.here hx (hb hby d3_34) rfl (teqI (x := (v2 / (64 : Int32))) (y := (1 : Int32)) hc34_3).2 ?_
          refine s_lload (pc' := 39) X_214.here hx (hb hby d3_37) rfl rfl ?_
          refine s_lconst (pc' := 40) (z := (1 : Int64)) X_214.here hx (hb hby d3_39) rfl rfl ?_
          refine s_aloadN (pc' := 41) X_214.here hx (hb hby d3_40) rfl rfl rfl ?_
          refine s_iload (pc' := 43) X_214.here hx (hb hby d3_41) rfl rfl ?_
          obtain ⟨cl_221, Ar_221, q_221, S_221, N_221, H_221, G_221⟩ := id V_b
          have hi_221 : ¬ ((2 : Int32) < 0 ∨ cl_221.slots.size ≤ ((2 : Int32)).toNatClampNeg) := inb_of S_221 ⟨by decide, by decide⟩
          refine Win.go (fun _ k => X_214.iaload hx (j := (2 : Int32)) (v := (.int v2)) (by rw [e_214]; exact Ar_221.1) (State.isArrayOf_alike hZ.alike Ar_221.2.1) Ar_221.2.2 hi_221 (H_221.at hi_221 rfl) (g := (mkF m 43 #[.val (.ref a), .val (.ref b), .val (.long t0), .second, .val (.int (2 : Int32)), .val (.int (1 : Int32)), .val (.long mk1_1), .second] [(.int (2 : Int32)), (.ref b), (.long (1 : Int64)), (.long mk1_1)])) rfl rfl (hb hby d3_43) _ k) ?_
          show Win p.tables e below _ (T_214.setTop (mkF m 44 #[.val (.ref a), .val (.ref b), .val (.long t0), .second, .val (.int (2 : Int32)), .val (.int (1 : Int32)), .val (.long mk1_1), .second] [(.int v2), (.long (1 : Int64)), (.long mk1_1)]))
          clear Ar_221 q_221 S_221 N_221 H_221 G_221 hi_221
          refine s_bipush (pc' := 46) (z := (64 : Int32)) X_214.here hx (hb hby d3_44) rfl rfl ?_
          refine Win.go (fun _ k => iremM X_214 hx rfl (hb hby d3_46) rfl (by decide) k) ?_
          show Win p.tables e below _ (T_214.setTop (mkF m 47 #[.val (.ref a), .val (.ref b), .val (.long t0), .second, .val (.int (2 : Int32)), .val (.int (1 : Int32)), .val (.long mk1_1), .second] [(.int (v2 % (64 : Int32))), (.long (1 : Int64)), (.long mk1_1)]))
          refine Win.go (fun _ k => XT.lshl X_214.here hx rfl (hb hby d3_47) rfl k) ?_
          show Win p.tables e below _ (T_214.setTop (mkF m 48 #[.val (.ref a), .val (.ref b), .val (.long t0), .second, .val (.int (2 : Int32)), .val (.int (1 : Int32)), .val (.long mk1_1), .second] [(.long ((1 : Int64) <<< ((v2 % (64 : Int32)).toInt64 &&& 63))), (.long mk1_1)]))
          refine s_lor (pc' := 49) X_214.here hx (hb hby d3_48) rfl ?_
          refine s_lstore (pc' := 51) (l' := #[.val (.ref a), .val (.ref b), .val (.long t0), .second, .val (.int (2 : Int32)), .val (.int (1 : Int32)), .val (.long (mk1_1 ||| ((1 : Int64) <<< ((v2 % (64 : Int32)).toInt64 &&& 63)))), .second]) X_214.here hx (hb hby d3_49) rfl rfl ?_
          generalize hmk1_2 : (mk1_1 ||| ((1 : Int64) <<< ((v2 % (64 : Int32)).toInt64 &&& 63))) = mk1_2
          show Win p.tables e below _ (T_214.setTop (mkF m 51 #[.val (.ref a), .val (.ref b), .val (.long t0), .second, .val (.int (2 : Int32)), .val (.int (1 : Int32)), .val (.long mk1_2), .second] []))
          refine Win.go (fun _ k => XS.iinc X_214.here hx rfl (hb hby d3_51) rfl (l' := #[.val (.ref a), .val (.ref b), .val (.long t0), .second, .val (.int (3 : Int32)), .val (.int (1 : Int32)), .val (.long mk1_2), .second]) rfl k) ?_
          show Win p.tables e below _ (T_214.setTop (mkF m 54 #[.val (.ref a), .val (.ref b), .val (.long t0), .second, .val (.int (3 : Int32)), .val (.int (1 : Int32)), .val (.long mk1_2), .second] []))
          refine s_goto (pc' := 18) X_214.here hx (hb hby d3_54) (by decide) (by decide) ?_
          refine s_iload (pc' := 20) X_214.here hx (hb hby d3_18) rfl rfl ?_
          refine s_aloadN (pc' := 21) X_214.here hx (hb hby d3_20) rfl rfl rfl ?_
          obtain ⟨cl_222, Ar_222, q_222, S_222, N_222, H_222, G_222⟩ := id V_b
          refine Win.go (fun _ k => X_214.arraylength hx (by rw [e_214]; exact Ar_222.1) (State.isArrayOf_alike hZ.alike Ar_222.2.1) (g := (mkF m 21 #[.val (.ref a), .val (.ref b), .val (.long t0), .second, .val (.int (3 : Int32)), .val (.int (1 : Int32)), .val (.long mk1_2), .second] [(.ref b), (.int (3 : Int32))])) rfl rfl (hb hby d3_21) _ k) ?_
          rw [len_of S_222 N_222]
          clear Ar_222 q_222 S_222 N_222 H_222 G_222
          show Win p.tables e below _ (T_214.setTop (mkF m 22 #[.val (.ref a), .val (.ref b), .val (.long t0), .second, .val (.int (3 : Int32)), .val (.int (1 : Int32)), .val (.long mk1_2), .second] [(.int (4 : Int32)), (.int (3 : Int32))]))
          refine s_icmpNo (pc' := 25) X_214.here hx (hb hby d3_22) rfl (tltI (x := (3 : Int32)) (y := (4 : Int32)) (by decide)).2.1 ?_
          refine s_aloadN (pc' := 26) X_214.here hx (hb hby d3_25) rfl rfl rfl ?_
          refine s_iload (pc' := 28) X_214.here hx (hb hby d3_26) rfl rfl ?_
          obtain ⟨cl_223, Ar_223, q_223, S_223, N_223, H_223, G_223⟩ := id V_b
          have hi_223 : ¬ ((3 : Int32) < 0 ∨ cl_223.slots.size ≤ ((3 : Int32)).toNatClampNeg) := inb_of S_223 ⟨by decide, by decide⟩
          refine Win.go (fun _ k => X_214.iaload hx (j := (3 : Int32)) (v := (.int v3)) (by rw [e_214]; exact Ar_223.1) (State.isArrayOf_alike hZ.alike Ar_223.2.1) Ar_223.2.2 hi_223 (H_223.at hi_223 rfl) (g := (mkF m 28 #[.val (.ref a), .val (.ref b), .val (.long t0), .second, .val (.int (3 : Int32)), .val (.int (1 : Int32)), .val (.long mk1_2), .second] [(.int (3 : Int32)), (.ref b)])) rfl rfl (hb hby d3_28) _ k) ?_
          show Win p.tables e below _ (T_214.setTop (mkF m 29 #[.val (.ref a), .val (.ref b), .val (.long t0), .second, .val (.int (3 : Int32)), .val (.int (1 : Int32)), .val (.long mk1_2), .second] [(.int v3)]))
          clear Ar_223 q_223 S_223 N_223 H_223 G_223 hi_223
          refine s_bipush (pc' := 31) (z := (64 : Int32)) X_214.here hx (hb hby d3_29) rfl rfl ?_
          refine Win.go (fun _ k => XS.idiv X_214.here hx rfl (hb hby d3_31) rfl (by decide) k) ?_
          show Win p.tables e below _ (T_214.setTop (mkF m 32 #[.val (.ref a), .val (.ref b), .val (.long t0), .second, .val (.int (3 : Int32)), .val (.int (1 : Int32)), .val (.long mk1_2), .second] [(.int (v3 / (64 : Int32)))]))
          refine s_iload (pc' := 34) X_214.here hx (hb hby d3_32) rfl rfl ?_
          by_cases hc34_4 : ((v3 / (64 : Int32))).toInt = (1 : Int)
          · skip
            refine s_icmpNo (pc' := 37) X_214.here hx (hb hby d3_34) rfl (teqI (x := (v3 / (64 : Int32))) (y := (1 : Int32)) hc34_4).2 ?_
            refine s_lload (pc' := 39) X_214.here hx (hb hby d3_37) rfl rfl ?_
            refine s_lconst (pc' := 40) (z := (1 : Int64)) X_214.here hx (hb hby d3_39) rfl rfl ?_
            refine s_aloadN (pc' := 41) X_214.here hx (hb hby d3_40) rfl rfl rfl ?_
            refine s_iload (pc' := 43) X_214.here hx (hb hby d3_41) rfl rfl ?_
            obtain ⟨cl_224, Ar_224, q_224, S_224, N_224, H_224, G_224⟩ := id V_b
            have hi_224 : ¬ ((3 : Int32) < 0 ∨ cl_224.slots.size ≤ ((3 : Int32)).toNatClampNeg) := inb_of S_224 ⟨by decide, by decide⟩
            refine Win.go (fun _ k => X_214.iaload hx (j := (3 : Int32)) (v := (.int v3)) (by rw [e_214]; exact Ar_224.1) (State.isArrayOf_alike hZ.alike Ar_224.2.1) Ar_224.2.2 hi_224 (H_224.at hi_224 rfl) (g := (mkF m 43 #[.val (.ref a), .val (.ref b), .val (.long t0), .second, .val (.int (3 : Int32)), .val (.int (1 : Int32)), .val (.long mk1_2), .second] [(.int (3 : Int32)), (.ref b), (.long (1 : Int64)), (.long mk1_2)])) rfl rfl (hb hby d3_43) _ k) ?_
            show Win p.tables e below _ (T_214.setTop (mkF m 44 #[.val (.ref a), .val (.ref b), .val (.long t0), .second, .val (.int (3 : Int32)), .val (.int (1 : Int32)), .val (.long mk1_2), .second] [(.int v3), (.long (1 : Int64)), (.long mk1_2)]))
            clear Ar_224 q_224 S_224 N_224 H_224 G_224 hi_224
            refine s_bipush (pc' := 46) (z := (64 : Int32)) X_214.here hx (hb hby d3_44) rfl rfl ?_
            refine Win.go (fun _ k => iremM X_214 hx rfl (hb hby d3_46) rfl (by decide) k) ?_
            show Win p.tables e below _ (T_214.setTop (mkF m 47 #[.val (.ref a), .val (.ref b), .val (.long t0), .second, .val (.int (3 : Int32)), .val (.int (1 : Int32)), .val (.long mk1_2), .second] [(.int (v3 % (64 : Int32))), (.long (1 : Int64)), (.long mk1_2)]))
            refine Win.go (fun _ k => XT.lshl X_214.here hx rfl (hb hby d3_47) rfl k) ?_
            show Win p.tables e below _ (T_214.setTop (mkF m 48 #[.val (.ref a), .val (.ref b), .val (.long t0), .second, .val (.int (3 : Int32)), .val (.int (1 : Int32)), .val (.long mk1_2), .second] [(.long ((1 : Int64) <<< ((v3 % (64 : Int32)).toInt64 &&& 63))), (.long mk1_2)]))
            refine s_lor (pc' := 49) X_214.here hx (hb hby d3_48) rfl ?_
            refine s_lstore (pc' := 51) (l' := #[.val (.ref a), .val (.ref b), .val (.long t0), .second, .val (.int (3 : Int32)), .val (.int (1 : Int32)), .val (.long (mk1_2 ||| ((1 : Int64) <<< ((v3 % (64 : Int32)).toInt64 &&& 63)))), .second]) X_214.here hx (hb hby d3_49) rfl rfl ?_
            generalize hmk1_3 : (mk1_2 ||| ((1 : Int64) <<< ((v3 % (64 : Int32)).toInt64 &&& 63))) = mk1_3
            show Win p.tables e below _ (T_214.setTop (mkF m 51 #[.val (.ref a), .val (.ref b), .val (.long t0), .second, .val (.int (3 : Int32)), .val (.int (1 : Int32)), .val (.long mk1_3), .second] []))
            refine Win.go (fun _ k => XS.iinc X_214.here hx rfl (hb hby d3_51) rfl (l' := #[.val (.ref a), .val (.ref b), .val (.long t0), .second, .val (.int (4 : Int32)), .val (.int (1 : Int32)), .val (.long mk1_3), .second]) rfl k) ?_
            show Win p.tables e below _ (T_214.setTop (mkF m 54 #[.val (.ref a), .val (.ref b), .val (.long t0), .second, .val (.int (4 : Int32)), .val (.int (1 : Int32)), .val (.long mk1_3), .second] []))
            refine s_goto (pc' := 18) X_214.here hx (hb hby d3_54) (by decide) (by decide) ?_
            refine s_iload (pc' := 20) X_214.here hx (hb hby d3_18) rfl rfl ?_
            refine s_aloadN (pc' := 21) X_214.here hx (hb hby d3_20) rfl rfl rfl ?_
            obtain ⟨cl_225, Ar_225, q_225, S_225, N_225, H_225, G_225⟩ := id V_b
            refine Win.go (fun _ k => X_214.arraylength hx (by rw [e_214]; exact Ar_225.1) (State.isArrayOf_alike hZ.alike Ar_225.2.1) (g := (mkF m 21 #[.val (.ref a), .val (.ref b), .val (.long t0), .second, .val (.int (4 : Int32)), .val (.int (1 : Int32)), .val (.long mk1_3), .second] [(.ref b), (.int (4 : Int32))])) rfl rfl (hb hby d3_21) _ k) ?_
            rw [len_of S_225 N_225]
            clear Ar_225 q_225 S_225 N_225 H_225 G_225
            show Win p.tables e below _ (T_214.setTop (mkF m 22 #[.val (.ref a), .val (.ref b), .val (.long t0), .second, .val (.int (4 : Int32)), .val (.int (1 : Int32)), .val (.long mk1_3), .second] [(.int (4 : Int32)), (.int (4 : Int32))]))
            refine s_icmpYes (pc' := 57) X_214.here hx (hb hby d3_22) (fltI (x := (4 : Int32)) (y := (4 : Int32)) (by decide)).2.1 (by decide) (by decide) ?_
            refine s_lloadN (pc' := 58) X_214.here hx (hb hby d3_57) rfl rfl ?_
            refine s_aloadN (pc' := 59) X_214.here hx (hb hby d3_58) rfl rfl rfl ?_
            refine s_iload (pc' := 61) X_214.here hx (hb hby d3_59) rfl rfl ?_
            obtain ⟨cl_226, Ar_226, q_226, S_226, N_226, H_226, G_226⟩ := id V_a
            have hi_226 : ¬ ((1 : Int32) < 0 ∨ cl_226.slots.size ≤ ((1 : Int32)).toNatClampNeg) := inb_of S_226 ⟨by decide, by decide⟩
            refine Win.go (fun _ k => X_214.laload hx (j := (1 : Int32)) (v := (.long u1)) (by rw [e_214]; exact Ar_226.1) (State.isArrayOf_alike hZ.alike Ar_226.2.1) Ar_226.2.2 hi_226 (H_226.at hi_226 rfl) (g := (mkF m 61 #[.val (.ref a), .val (.ref b), .val (.long t0), .second, .val (.int (4 : Int32)), .val (.int (1 : Int32)), .val (.long mk1_3), .second] [(.int (1 : Int32)), (.ref a), (.long t0)])) rfl rfl (hb hby d3_61) _ k) ?_
            show Win p.tables e below _ (T_214.setTop (mkF m 62 #[.val (.ref a), .val (.ref b), .val (.long t0), .second, .val (.int (4 : Int32)), .val (.int (1 : Int32)), .val (.long mk1_3), .second] [(.long u1), (.long t0)]))
            clear Ar_226 q_226 S_226 N_226 H_226 G_226 hi_226
            refine s_lload (pc' := 64) X_214.here hx (hb hby d3_62) rfl rfl ?_
            refine Win.go (fun _ k => X_214.ldc2Long hx hown (mvT hZ (hw _ (List.mem_of_getElem? (i := 14) rfl))) (g := (mkF m 64 #[.val (.ref a), .val (.ref b), .val (.long t0), .second, .val (.int (4 : Int32)), .val (.int (1 : Int32)), .val (.long mk1_3), .second] [(.long mk1_3), (.long u1), (.long t0)])) rfl (hb hby d3_64) _ k) ?_
            show Win p.tables e below _ (T_214.setTop (mkF m 67 #[.val (.ref a), .val (.ref b), .val (.long t0), .second, .val (.int (4 : Int32)), .val (.int (1 : Int32)), .val (.long mk1_3), .second] [(.long (-1 : Int64)), (.long mk1_3), (.long u1), (.long t0)]))
            refine s_lxor (pc' := 68) X_214.here hx (hb hby d3_67) rfl ?_
            refine s_land (pc' := 69) X_214.here hx (hb hby d3_68) rfl ?_
            refine s_lor (pc' := 70) X_214.here hx (hb hby d3_69) rfl ?_
            refine s_lstoreN (pc' := 71) (l' := #[.val (.ref a), .val (.ref b), .val (.long (t0 ||| (u1 &&& (mk1_3 ^^^ (-1 : Int64))))), .second, .val (.int (4 : Int32)), .val (.int (1 : Int32)), .val (.long mk1_3), .second]) X_214.here hx (hb hby d3_70) rfl rfl ?_
            generalize ht1 : (t0 ||| (u1 &&& (mk1_3 ^^^ (-1 : Int64)))) = t1
            show Win p.tables e below _ (T_214.setTop (mkF m 71 #[.val (.ref a), .val (.ref b), .val (.long t1), .second, .val (.int (4 : Int32)), .val (.int (1 : Int32)), .val (.long mk1_3), .second] []))
            refine s_aloadN (pc' := 72) X_214.here hx (hb hby d3_71) rfl rfl rfl ?_
            refine s_iload (pc' := 74) X_214.here hx (hb hby d3_72) rfl rfl ?_
            refine Win.go (fun _ k => XT.dup2 X_214.here hx rfl (hb hby d3_74) rfl rfl rfl k) ?_
            show Win p.tables e below _ (T_214.setTop (mkF m 75 #[.val (.ref a), .val (.ref b), .val (.long t1), .second, .val (.int (4 : Int32)), .val (.int (1 : Int32)), .val (.long mk1_3), .second] [(.int (1 : Int32)), (.ref a), (.int (1 : Int32)), (.ref a)]))
            obtain ⟨cl_227, Ar_227, q_227, S_227, N_227, H_227, G_227⟩ := id V_a
            have hi_227 : ¬ ((1 : Int32) < 0 ∨ cl_227.slots.size ≤ ((1 : Int32)).toNatClampNeg) := inb_of S_227 ⟨by decide, by decide⟩
            refine Win.go (fun _ k => X_214.laload hx (j := (1 : Int32)) (v := (.long u1)) (by rw [e_214]; exact Ar_227.1) (State.isArrayOf_alike hZ.alike Ar_227.2.1) Ar_227.2.2 hi_227 (H_227.at hi_227 rfl) (g := (mkF m 75 #[.val (.ref a), .val (.ref b), .val (.long t1), .second, .val (.int (4 : Int32)), .val (.int (1 : Int32)), .val (.long mk1_3), .second] [(.int (1 : Int32)), (.ref a), (.int (1 : Int32)), (.ref a)])) rfl rfl (hb hby d3_75) _ k) ?_
            show Win p.tables e below _ (T_214.setTop (mkF m 76 #[.val (.ref a), .val (.ref b), .val (.long t1), .second, .val (.int (4 : Int32)), .val (.int (1 : Int32)), .val (.long mk1_3), .second] [(.long u1), (.int (1 : Int32)), (.ref a)]))
            clear Ar_227 q_227 S_227 N_227 H_227 G_227 hi_227
            refine s_lload (pc' := 78) X_214.here hx (hb hby d3_76) rfl rfl ?_
            refine s_land (pc' := 79) X_214.here hx (hb hby d3_78) rfl ?_
            obtain ⟨cl_228, Ar_228, q_228, S_228, N_228, H_228, G_228⟩ := V_a
            obtain ⟨T_228, h_228, X_228, e_228, W_228, st_228⟩ := stJ X_214 hx hZ e_214 Ar_228 (j := (1 : Int32)) (inb_of S_228 ⟨by decide, by decide⟩) (g := (mkF m 79 #[.val (.ref a), .val (.ref b), .val (.long t1), .second, .val (.int (4 : Int32)), .val (.int (1 : Int32)), .val (.long mk1_3), .second] [(.long (u1 &&& mk1_3)), (.int (1 : Int32)), (.ref a)])) rfl rfl (hb hby d3_79)
            have V_228 := Arv.set Ar_228 q_228 S_228 N_228 H_228 G_228 rfl W_228 1 rfl (Nat.le_of_ble_eq_true rfl)
            replace V_b := V_b.other W_228 ne_b_a
            replace lt_a := Nat.lt_of_lt_of_le lt_a (Keep.of_wr W_228).1
            replace lt_b := Nat.lt_of_lt_of_le lt_b (Keep.of_wr W_228).1
            replace Zs := Nat.le_trans Zs (Keep.of_wr W_228).1
            replace Kp := Kp.wr W_228 (Or.inl (by simp))
            replace V_a : Arv Z h_228 a ka .long (2 : Int32) [(.long (u0 &&& mk0_0)), (.long (u1 &&& mk1_3))] (.long (0 : Int64)) := V_228
            replace Nf := Fr.snoc X_228 Nf g_a
            refine Win.go st_228 ?_
            clear st_228 W_228 V_228 Ar_228 q_228 S_228 N_228 H_228 G_228 X_214 e_214
            show Win p.tables e below _ (T_228.setTop (mkF m 80 #[.val (.ref a), .val (.ref b), .val (.long t1), .second, .val (.int (4 : Int32)), .val (.int (1 : Int32)), .val (.long mk1_3), .second] []))
            refine Win.go (fun _ k => XS.iinc X_228.here hx rfl (hb hby d3_80) rfl (l' := #[.val (.ref a), .val (.ref b), .val (.long t1), .second, .val (.int (4 : Int32)), .val (.int (2 : Int32)), .val (.long mk1_3), .second]) rfl k) ?_
            show Win p.tables e below _ (T_228.setTop (mkF m 83 #[.val (.ref a), .val (.ref b), .val (.long t1), .second, .val (.int (4 : Int32)), .val (.int (2 : Int32)), .val (.long mk1_3), .second] []))
            refine s_goto (pc' := 8) X_228.here hx (hb hby d3_83) (by decide) (by decide) ?_
            refine s_iload (pc' := 10) X_228.here hx (hb hby d3_8) rfl rfl ?_
            refine s_aloadN (pc' := 11) X_228.here hx (hb hby d3_10) rfl rfl rfl ?_
            obtain ⟨cl_229, Ar_229, q_229, S_229, N_229, H_229, G_229⟩ := id V_a
            refine Win.go (fun _ k => X_228.arraylength hx (by rw [e_228]; exact Ar_229.1) (State.isArrayOf_alike hZ.alike Ar_229.2.1) (g := (mkF m 11 #[.val (.ref a), .val (.ref b), .val (.long t1), .second, .val (.int (4 : Int32)), .val (.int (2 : Int32)), .val (.long mk1_3), .second] [(.ref a), (.int (2 : Int32))])) rfl rfl (hb hby d3_11) _ k) ?_
            rw [len_of S_229 N_229]
            clear Ar_229 q_229 S_229 N_229 H_229 G_229
            show Win p.tables e below _ (T_228.setTop (mkF m 12 #[.val (.ref a), .val (.ref b), .val (.long t1), .second, .val (.int (4 : Int32)), .val (.int (2 : Int32)), .val (.long mk1_3), .second] [(.int (2 : Int32)), (.int (2 : Int32))]))
            refine s_icmpYes (pc' := 86) X_228.here hx (hb hby d3_12) (fltI (x := (2 : Int32)) (y := (2 : Int32)) (by decide)).2.1 (by decide) (by decide) ?_
            refine s_lloadN (pc' := 87) X_228.here hx (hb hby d3_86) rfl rfl ?_
            refine s_lconst (pc' := 88) (z := (0 : Int64)) X_228.here hx (hb hby d3_87) rfl rfl ?_
            refine s_lcmp (pc' := 89) X_228.here hx (hb hby d3_88) rfl ?_
            by_cases hc89_5 : (t1).toInt = (0 : Int)
            · skip
              refine s_ifYes (pc' := 96) X_228.here hx (hb hby d3_89) (teqL (x := t1) (y := (0 : Int64)) hc89_5).1 (by decide) (by decide) ?_
              refine s_iconst (pc' := 97) (z := (0 : Int32)) X_228.here hx (hb hby d3_96) rfl rfl ?_
              refine winN X_228 hx hlk e_228 (t := .boolean) Bd.returns (by simp) (hb hby d3_97) (by decide) (by decide) (z' := (0 : Int32)) rfl ?_
              have e0 := own_lo (v := v0) (by omega) (by omega)
              have e1 := own_hi (v := v1) (by omega) (by omega)
              have e2 := own_hi (v := v2) (by omega) (by omega)
              have e3 := own_hi (v := v3) (by omega) (by omega)
              have mA : ((((bit0 v0) ||| (bit0 v1)) ||| (bit0 v2)) ||| (bit0 v3)) = mk0_0 := by rw [← hmk0_0]; simp only [e0.1, e0.2, e1.1, e1.2, e2.1, e2.2, e3.1, e3.2, Int64.or_zero, Int64.zero_or]
              have mB : ((((bit1 v0) ||| (bit1 v1)) ||| (bit1 v2)) ||| (bit1 v3)) = mk1_3 := by rw [← hmk1_3, ← hmk1_2, ← hmk1_1]; simp only [e0.1, e0.2, e1.1, e1.2, e2.1, e2.2, e3.1, e3.2, Int64.or_zero, Int64.zero_or]
              have tt : (((0 : Int64) ||| (u0 &&& (((((bit0 v0) ||| (bit0 v1)) ||| (bit0 v2)) ||| (bit0 v3)) ^^^ (-1 : Int64)))) ||| (u1 &&& (((((bit1 v0) ||| (bit1 v1)) ||| (bit1 v2)) ||| (bit1 v3)) ^^^ (-1 : Int64)))) = t1 := by rw [mA, mB, ht0, ht1]
              refine ⟨Nf, Kp, by rw [mA, mB]; exact V_a, _, rfl, Or.inr ⟨rfl, ?_⟩⟩
              rw [tt]
              exact fun q => q hc89_5
            · skip
              refine s_ifNo (pc' := 92) X_228.here hx (hb hby d3_89) rfl (feqL (x := t1) (y := (0 : Int64)) hc89_5).1 ?_
              refine s_iconst (pc' := 93) (z := (1 : Int32)) X_228.here hx (hb hby d3_92) rfl rfl ?_
              refine s_goto (pc' := 97) X_228.here hx (hb hby d3_93) (by decide) (by decide) ?_
              refine winN X_228 hx hlk e_228 (t := .boolean) Bd.returns (by simp) (hb hby d3_97) (by decide) (by decide) (z' := (1 : Int32)) rfl ?_
              have e0 := own_lo (v := v0) (by omega) (by omega)
              have e1 := own_hi (v := v1) (by omega) (by omega)
              have e2 := own_hi (v := v2) (by omega) (by omega)
              have e3 := own_hi (v := v3) (by omega) (by omega)
              have mA : ((((bit0 v0) ||| (bit0 v1)) ||| (bit0 v2)) ||| (bit0 v3)) = mk0_0 := by rw [← hmk0_0]; simp only [e0.1, e0.2, e1.1, e1.2, e2.1, e2.2, e3.1, e3.2, Int64.or_zero, Int64.zero_or]
              have mB : ((((bit1 v0) ||| (bit1 v1)) ||| (bit1 v2)) ||| (bit1 v3)) = mk1_3 := by rw [← hmk1_3, ← hmk1_2, ← hmk1_1]; simp only [e0.1, e0.2, e1.1, e1.2, e2.1, e2.2, e3.1, e3.2, Int64.or_zero, Int64.zero_or]
              have tt : (((0 : Int64) ||| (u0 &&& (((((bit0 v0) ||| (bit0 v1)) ||| (bit0 v2)) ||| (bit0 v3)) ^^^ (-1 : Int64)))) ||| (u1 &&& (((((bit1 v0) ||| (bit1 v1)) ||| (bit1 v2)) ||| (bit1 v3)) ^^^ (-1 : Int64)))) = t1 := by rw [mA, mB, ht0, ht1]
              refine ⟨Nf, Kp, by rw [mA, mB]; exact V_a, _, rfl, Or.inl ⟨rfl, ?_⟩⟩
              rw [tt]
              exact hc89_5
          · skip
            exfalso
            omega
        · skip
          exfalso
          omega
      · skip
        exfalso
        omega
  · skip
    refine s_icmpYes (pc' := 57) X0.here hx (hb hby d3_34) (feqI (x := (v0 / (64 : Int32))) (y := (0 : Int32)) hc34_0).2 (by decide) (by decide) ?_
    refine s_lloadN (pc' := 58) X0.here hx (hb hby d3_57) rfl rfl ?_
    refine s_aloadN (pc' := 59) X0.here hx (hb hby d3_58) rfl rfl rfl ?_
    refine s_iload (pc' := 61) X0.here hx (hb hby d3_59) rfl rfl ?_
    obtain ⟨cl_230, Ar_230, q_230, S_230, N_230, H_230, G_230⟩ := id V_a
    have hi_230 : ¬ ((0 : Int32) < 0 ∨ cl_230.slots.size ≤ ((0 : Int32)).toNatClampNeg) := inb_of S_230 ⟨by decide, by decide⟩
    refine Win.go (fun _ k => X0.laload hx (j := (0 : Int32)) (v := (.long u0)) (by rw [e0]; exact Ar_230.1) (State.isArrayOf_alike hZ.alike Ar_230.2.1) Ar_230.2.2 hi_230 (H_230.at hi_230 rfl) (g := (mkF m 61 #[.val (.ref a), .val (.ref b), .val (.long (0 : Int64)), .second, .val (.int (0 : Int32)), .val (.int (0 : Int32)), .val (.long (0 : Int64)), .second] [(.int (0 : Int32)), (.ref a), (.long (0 : Int64))])) rfl rfl (hb hby d3_61) _ k) ?_
    show Win p.tables e below _ (s₁.setTop (mkF m 62 #[.val (.ref a), .val (.ref b), .val (.long (0 : Int64)), .second, .val (.int (0 : Int32)), .val (.int (0 : Int32)), .val (.long (0 : Int64)), .second] [(.long u0), (.long (0 : Int64))]))
    clear Ar_230 q_230 S_230 N_230 H_230 G_230 hi_230
    refine s_lload (pc' := 64) X0.here hx (hb hby d3_62) rfl rfl ?_
    refine Win.go (fun _ k => X0.ldc2Long hx hown (mvT hZ (hw _ (List.mem_of_getElem? (i := 14) rfl))) (g := (mkF m 64 #[.val (.ref a), .val (.ref b), .val (.long (0 : Int64)), .second, .val (.int (0 : Int32)), .val (.int (0 : Int32)), .val (.long (0 : Int64)), .second] [(.long (0 : Int64)), (.long u0), (.long (0 : Int64))])) rfl (hb hby d3_64) _ k) ?_
    show Win p.tables e below _ (s₁.setTop (mkF m 67 #[.val (.ref a), .val (.ref b), .val (.long (0 : Int64)), .second, .val (.int (0 : Int32)), .val (.int (0 : Int32)), .val (.long (0 : Int64)), .second] [(.long (-1 : Int64)), (.long (0 : Int64)), (.long u0), (.long (0 : Int64))]))
    refine Win.go (fun _ k => XS.lxor X0.here hx rfl (hb hby d3_67) rfl k) ?_
    show Win p.tables e below _ (s₁.setTop (mkF m 68 #[.val (.ref a), .val (.ref b), .val (.long (0 : Int64)), .second, .val (.int (0 : Int32)), .val (.int (0 : Int32)), .val (.long (0 : Int64)), .second] [(.long (-1 : Int64)), (.long u0), (.long (0 : Int64))]))
    refine s_land (pc' := 69) X0.here hx (hb hby d3_68) rfl ?_
    refine s_lor (pc' := 70) X0.here hx (hb hby d3_69) rfl ?_
    refine s_lstoreN (pc' := 71) (l' := #[.val (.ref a), .val (.ref b), .val (.long ((0 : Int64) ||| (u0 &&& (-1 : Int64)))), .second, .val (.int (0 : Int32)), .val (.int (0 : Int32)), .val (.long (0 : Int64)), .second]) X0.here hx (hb hby d3_70) rfl rfl ?_
    generalize ht0 : ((0 : Int64) ||| (u0 &&& (-1 : Int64))) = t0
    show Win p.tables e below _ (s₁.setTop (mkF m 71 #[.val (.ref a), .val (.ref b), .val (.long t0), .second, .val (.int (0 : Int32)), .val (.int (0 : Int32)), .val (.long (0 : Int64)), .second] []))
    refine s_aloadN (pc' := 72) X0.here hx (hb hby d3_71) rfl rfl rfl ?_
    refine s_iload (pc' := 74) X0.here hx (hb hby d3_72) rfl rfl ?_
    refine Win.go (fun _ k => XT.dup2 X0.here hx rfl (hb hby d3_74) rfl rfl rfl k) ?_
    show Win p.tables e below _ (s₁.setTop (mkF m 75 #[.val (.ref a), .val (.ref b), .val (.long t0), .second, .val (.int (0 : Int32)), .val (.int (0 : Int32)), .val (.long (0 : Int64)), .second] [(.int (0 : Int32)), (.ref a), (.int (0 : Int32)), (.ref a)]))
    obtain ⟨cl_231, Ar_231, q_231, S_231, N_231, H_231, G_231⟩ := id V_a
    have hi_231 : ¬ ((0 : Int32) < 0 ∨ cl_231.slots.size ≤ ((0 : Int32)).toNatClampNeg) := inb_of S_231 ⟨by decide, by decide⟩
    refine Win.go (fun _ k => X0.laload hx (j := (0 : Int32)) (v := (.long u0)) (by rw [e0]; exact Ar_231.1) (State.isArrayOf_alike hZ.alike Ar_231.2.1) Ar_231.2.2 hi_231 (H_231.at hi_231 rfl) (g := (mkF m 75 #[.val (.ref a), .val (.ref b), .val (.long t0), .second, .val (.int (0 : Int32)), .val (.int (0 : Int32)), .val (.long (0 : Int64)), .second] [(.int (0 : Int32)), (.ref a), (.int (0 : Int32)), (.ref a)])) rfl rfl (hb hby d3_75) _ k) ?_
    show Win p.tables e below _ (s₁.setTop (mkF m 76 #[.val (.ref a), .val (.ref b), .val (.long t0), .second, .val (.int (0 : Int32)), .val (.int (0 : Int32)), .val (.long (0 : Int64)), .second] [(.long u0), (.int (0 : Int32)), (.ref a)]))
    clear Ar_231 q_231 S_231 N_231 H_231 G_231 hi_231
    refine s_lload (pc' := 78) X0.here hx (hb hby d3_76) rfl rfl ?_
    refine s_land (pc' := 79) X0.here hx (hb hby d3_78) rfl ?_
    obtain ⟨cl_232, Ar_232, q_232, S_232, N_232, H_232, G_232⟩ := V_a
    obtain ⟨T_232, h_232, X_232, e_232, W_232, st_232⟩ := stJ X0 hx hZ e0 Ar_232 (j := (0 : Int32)) (inb_of S_232 ⟨by decide, by decide⟩) (g := (mkF m 79 #[.val (.ref a), .val (.ref b), .val (.long t0), .second, .val (.int (0 : Int32)), .val (.int (0 : Int32)), .val (.long (0 : Int64)), .second] [(.long (u0 &&& (0 : Int64))), (.int (0 : Int32)), (.ref a)])) rfl rfl (hb hby d3_79)
    have V_232 := Arv.set Ar_232 q_232 S_232 N_232 H_232 G_232 rfl W_232 0 rfl (Nat.le_of_ble_eq_true rfl)
    replace V_b := V_b.other W_232 ne_b_a
    replace lt_a := Nat.lt_of_lt_of_le lt_a (Keep.of_wr W_232).1
    replace lt_b := Nat.lt_of_lt_of_le lt_b (Keep.of_wr W_232).1
    replace Zs := Nat.le_trans Zs (Keep.of_wr W_232).1
    replace Kp := Kp.wr W_232 (Or.inl (by simp))
    replace V_a : Arv Z h_232 a ka .long (2 : Int32) [(.long (u0 &&& (0 : Int64))), (.long u1)] (.long (0 : Int64)) := V_232
    replace Nf := Fr.snoc X_232 Nf g_a
    refine Win.go st_232 ?_
    clear st_232 W_232 V_232 Ar_232 q_232 S_232 N_232 H_232 G_232 X0 e0
    show Win p.tables e below _ (T_232.setTop (mkF m 80 #[.val (.ref a), .val (.ref b), .val (.long t0), .second, .val (.int (0 : Int32)), .val (.int (0 : Int32)), .val (.long (0 : Int64)), .second] []))
    refine Win.go (fun _ k => XS.iinc X_232.here hx rfl (hb hby d3_80) rfl (l' := #[.val (.ref a), .val (.ref b), .val (.long t0), .second, .val (.int (0 : Int32)), .val (.int (1 : Int32)), .val (.long (0 : Int64)), .second]) rfl k) ?_
    show Win p.tables e below _ (T_232.setTop (mkF m 83 #[.val (.ref a), .val (.ref b), .val (.long t0), .second, .val (.int (0 : Int32)), .val (.int (1 : Int32)), .val (.long (0 : Int64)), .second] []))
    refine s_goto (pc' := 8) X_232.here hx (hb hby d3_83) (by decide) (by decide) ?_
    refine s_iload (pc' := 10) X_232.here hx (hb hby d3_8) rfl rfl ?_
    refine s_aloadN (pc' := 11) X_232.here hx (hb hby d3_10) rfl rfl rfl ?_
    obtain ⟨cl_233, Ar_233, q_233, S_233, N_233, H_233, G_233⟩ := id V_a
    refine Win.go (fun _ k => X_232.arraylength hx (by rw [e_232]; exact Ar_233.1) (State.isArrayOf_alike hZ.alike Ar_233.2.1) (g := (mkF m 11 #[.val (.ref a), .val (.ref b), .val (.long t0), .second, .val (.int (0 : Int32)), .val (.int (1 : Int32)), .val (.long (0 : Int64)), .second] [(.ref a), (.int (1 : Int32))])) rfl rfl (hb hby d3_11) _ k) ?_
    rw [len_of S_233 N_233]
    clear Ar_233 q_233 S_233 N_233 H_233 G_233
    show Win p.tables e below _ (T_232.setTop (mkF m 12 #[.val (.ref a), .val (.ref b), .val (.long t0), .second, .val (.int (0 : Int32)), .val (.int (1 : Int32)), .val (.long (0 : Int64)), .second] [(.int (2 : Int32)), (.int (1 : Int32))]))
    refine s_icmpNo (pc' := 15) X_232.here hx (hb hby d3_12) rfl (tltI (x := (1 : Int32)) (y := (2 : Int32)) (by decide)).2.1 ?_
    refine s_lconst (pc' := 16) (z := (0 : Int64)) X_232.here hx (hb hby d3_15) rfl rfl ?_
    refine s_lstore (pc' := 18) (l' := #[.val (.ref a), .val (.ref b), .val (.long t0), .second, .val (.int (0 : Int32)), .val (.int (1 : Int32)), .val (.long (0 : Int64)), .second]) X_232.here hx (hb hby d3_16) rfl rfl ?_
    refine s_iload (pc' := 20) X_232.here hx (hb hby d3_18) rfl rfl ?_
    refine s_aloadN (pc' := 21) X_232.here hx (hb hby d3_20) rfl rfl rfl ?_
    obtain ⟨cl_234, Ar_234, q_234, S_234, N_234, H_234, G_234⟩ := id V_b
    refine Win.go (fun _ k => X_232.arraylength hx (by rw [e_232]; exact Ar_234.1) (State.isArrayOf_alike hZ.alike Ar_234.2.1) (g := (mkF m 21 #[.val (.ref a), .val (.ref b), .val (.long t0), .second, .val (.int (0 : Int32)), .val (.int (1 : Int32)), .val (.long (0 : Int64)), .second] [(.ref b), (.int (0 : Int32))])) rfl rfl (hb hby d3_21) _ k) ?_
    rw [len_of S_234 N_234]
    clear Ar_234 q_234 S_234 N_234 H_234 G_234
    show Win p.tables e below _ (T_232.setTop (mkF m 22 #[.val (.ref a), .val (.ref b), .val (.long t0), .second, .val (.int (0 : Int32)), .val (.int (1 : Int32)), .val (.long (0 : Int64)), .second] [(.int (4 : Int32)), (.int (0 : Int32))]))
    refine s_icmpNo (pc' := 25) X_232.here hx (hb hby d3_22) rfl (tltI (x := (0 : Int32)) (y := (4 : Int32)) (by decide)).2.1 ?_
    refine s_aloadN (pc' := 26) X_232.here hx (hb hby d3_25) rfl rfl rfl ?_
    refine s_iload (pc' := 28) X_232.here hx (hb hby d3_26) rfl rfl ?_
    obtain ⟨cl_235, Ar_235, q_235, S_235, N_235, H_235, G_235⟩ := id V_b
    have hi_235 : ¬ ((0 : Int32) < 0 ∨ cl_235.slots.size ≤ ((0 : Int32)).toNatClampNeg) := inb_of S_235 ⟨by decide, by decide⟩
    refine Win.go (fun _ k => X_232.iaload hx (j := (0 : Int32)) (v := (.int v0)) (by rw [e_232]; exact Ar_235.1) (State.isArrayOf_alike hZ.alike Ar_235.2.1) Ar_235.2.2 hi_235 (H_235.at hi_235 rfl) (g := (mkF m 28 #[.val (.ref a), .val (.ref b), .val (.long t0), .second, .val (.int (0 : Int32)), .val (.int (1 : Int32)), .val (.long (0 : Int64)), .second] [(.int (0 : Int32)), (.ref b)])) rfl rfl (hb hby d3_28) _ k) ?_
    show Win p.tables e below _ (T_232.setTop (mkF m 29 #[.val (.ref a), .val (.ref b), .val (.long t0), .second, .val (.int (0 : Int32)), .val (.int (1 : Int32)), .val (.long (0 : Int64)), .second] [(.int v0)]))
    clear Ar_235 q_235 S_235 N_235 H_235 G_235 hi_235
    refine s_bipush (pc' := 31) (z := (64 : Int32)) X_232.here hx (hb hby d3_29) rfl rfl ?_
    refine Win.go (fun _ k => XS.idiv X_232.here hx rfl (hb hby d3_31) rfl (by decide) k) ?_
    show Win p.tables e below _ (T_232.setTop (mkF m 32 #[.val (.ref a), .val (.ref b), .val (.long t0), .second, .val (.int (0 : Int32)), .val (.int (1 : Int32)), .val (.long (0 : Int64)), .second] [(.int (v0 / (64 : Int32)))]))
    refine s_iload (pc' := 34) X_232.here hx (hb hby d3_32) rfl rfl ?_
    by_cases hc34_1 : ((v0 / (64 : Int32))).toInt = (1 : Int)
    · skip
      refine s_icmpNo (pc' := 37) X_232.here hx (hb hby d3_34) rfl (teqI (x := (v0 / (64 : Int32))) (y := (1 : Int32)) hc34_1).2 ?_
      refine s_lload (pc' := 39) X_232.here hx (hb hby d3_37) rfl rfl ?_
      refine s_lconst (pc' := 40) (z := (1 : Int64)) X_232.here hx (hb hby d3_39) rfl rfl ?_
      refine s_aloadN (pc' := 41) X_232.here hx (hb hby d3_40) rfl rfl rfl ?_
      refine s_iload (pc' := 43) X_232.here hx (hb hby d3_41) rfl rfl ?_
      obtain ⟨cl_236, Ar_236, q_236, S_236, N_236, H_236, G_236⟩ := id V_b
      have hi_236 : ¬ ((0 : Int32) < 0 ∨ cl_236.slots.size ≤ ((0 : Int32)).toNatClampNeg) := inb_of S_236 ⟨by decide, by decide⟩
      refine Win.go (fun _ k => X_232.iaload hx (j := (0 : Int32)) (v := (.int v0)) (by rw [e_232]; exact Ar_236.1) (State.isArrayOf_alike hZ.alike Ar_236.2.1) Ar_236.2.2 hi_236 (H_236.at hi_236 rfl) (g := (mkF m 43 #[.val (.ref a), .val (.ref b), .val (.long t0), .second, .val (.int (0 : Int32)), .val (.int (1 : Int32)), .val (.long (0 : Int64)), .second] [(.int (0 : Int32)), (.ref b), (.long (1 : Int64)), (.long (0 : Int64))])) rfl rfl (hb hby d3_43) _ k) ?_
      show Win p.tables e below _ (T_232.setTop (mkF m 44 #[.val (.ref a), .val (.ref b), .val (.long t0), .second, .val (.int (0 : Int32)), .val (.int (1 : Int32)), .val (.long (0 : Int64)), .second] [(.int v0), (.long (1 : Int64)), (.long (0 : Int64))]))
      clear Ar_236 q_236 S_236 N_236 H_236 G_236 hi_236
      refine s_bipush (pc' := 46) (z := (64 : Int32)) X_232.here hx (hb hby d3_44) rfl rfl ?_
      refine Win.go (fun _ k => iremM X_232 hx rfl (hb hby d3_46) rfl (by decide) k) ?_
      show Win p.tables e below _ (T_232.setTop (mkF m 47 #[.val (.ref a), .val (.ref b), .val (.long t0), .second, .val (.int (0 : Int32)), .val (.int (1 : Int32)), .val (.long (0 : Int64)), .second] [(.int (v0 % (64 : Int32))), (.long (1 : Int64)), (.long (0 : Int64))]))
      refine Win.go (fun _ k => XT.lshl X_232.here hx rfl (hb hby d3_47) rfl k) ?_
      show Win p.tables e below _ (T_232.setTop (mkF m 48 #[.val (.ref a), .val (.ref b), .val (.long t0), .second, .val (.int (0 : Int32)), .val (.int (1 : Int32)), .val (.long (0 : Int64)), .second] [(.long ((1 : Int64) <<< ((v0 % (64 : Int32)).toInt64 &&& 63))), (.long (0 : Int64))]))
      refine s_lor (pc' := 49) X_232.here hx (hb hby d3_48) rfl ?_
      refine s_lstore (pc' := 51) (l' := #[.val (.ref a), .val (.ref b), .val (.long t0), .second, .val (.int (0 : Int32)), .val (.int (1 : Int32)), .val (.long ((0 : Int64) ||| ((1 : Int64) <<< ((v0 % (64 : Int32)).toInt64 &&& 63)))), .second]) X_232.here hx (hb hby d3_49) rfl rfl ?_
      generalize hmk1_0 : ((0 : Int64) ||| ((1 : Int64) <<< ((v0 % (64 : Int32)).toInt64 &&& 63))) = mk1_0
      show Win p.tables e below _ (T_232.setTop (mkF m 51 #[.val (.ref a), .val (.ref b), .val (.long t0), .second, .val (.int (0 : Int32)), .val (.int (1 : Int32)), .val (.long mk1_0), .second] []))
      refine Win.go (fun _ k => XS.iinc X_232.here hx rfl (hb hby d3_51) rfl (l' := #[.val (.ref a), .val (.ref b), .val (.long t0), .second, .val (.int (1 : Int32)), .val (.int (1 : Int32)), .val (.long mk1_0), .second]) rfl k) ?_
      show Win p.tables e below _ (T_232.setTop (mkF m 54 #[.val (.ref a), .val (.ref b), .val (.long t0), .second, .val (.int (1 : Int32)), .val (.int (1 : Int32)), .val (.long mk1_0), .second] []))
      refine s_goto (pc' := 18) X_232.here hx (hb hby d3_54) (by decide) (by decide) ?_
      refine s_iload (pc' := 20) X_232.here hx (hb hby d3_18) rfl rfl ?_
      refine s_aloadN (pc' := 21) X_232.here hx (hb hby d3_20) rfl rfl rfl ?_
      obtain ⟨cl_237, Ar_237, q_237, S_237, N_237, H_237, G_237⟩ := id V_b
      refine Win.go (fun _ k => X_232.arraylength hx (by rw [e_232]; exact Ar_237.1) (State.isArrayOf_alike hZ.alike Ar_237.2.1) (g := (mkF m 21 #[.val (.ref a), .val (.ref b), .val (.long t0), .second, .val (.int (1 : Int32)), .val (.int (1 : Int32)), .val (.long mk1_0), .second] [(.ref b), (.int (1 : Int32))])) rfl rfl (hb hby d3_21) _ k) ?_
      rw [len_of S_237 N_237]
      clear Ar_237 q_237 S_237 N_237 H_237 G_237
      show Win p.tables e below _ (T_232.setTop (mkF m 22 #[.val (.ref a), .val (.ref b), .val (.long t0), .second, .val (.int (1 : Int32)), .val (.int (1 : Int32)), .val (.long mk1_0), .second] [(.int (4 : Int32)), (.int (1 : Int32))]))
      refine s_icmpNo (pc' := 25) X_232.here hx (hb hby d3_22) rfl (tltI (x := (1 : Int32)) (y := (4 : Int32)) (by decide)).2.1 ?_
      refine s_aloadN (pc' := 26) X_232.here hx (hb hby d3_25) rfl rfl rfl ?_
      refine s_iload (pc' := 28) X_232.here hx (hb hby d3_26) rfl rfl ?_
      obtain ⟨cl_238, Ar_238, q_238, S_238, N_238, H_238, G_238⟩ := id V_b
      have hi_238 : ¬ ((1 : Int32) < 0 ∨ cl_238.slots.size ≤ ((1 : Int32)).toNatClampNeg) := inb_of S_238 ⟨by decide, by decide⟩
      refine Win.go (fun _ k => X_232.iaload hx (j := (1 : Int32)) (v := (.int v1)) (by rw [e_232]; exact Ar_238.1) (State.isArrayOf_alike hZ.alike Ar_238.2.1) Ar_238.2.2 hi_238 (H_238.at hi_238 rfl) (g := (mkF m 28 #[.val (.ref a), .val (.ref b), .val (.long t0), .second, .val (.int (1 : Int32)), .val (.int (1 : Int32)), .val (.long mk1_0), .second] [(.int (1 : Int32)), (.ref b)])) rfl rfl (hb hby d3_28) _ k) ?_
      show Win p.tables e below _ (T_232.setTop (mkF m 29 #[.val (.ref a), .val (.ref b), .val (.long t0), .second, .val (.int (1 : Int32)), .val (.int (1 : Int32)), .val (.long mk1_0), .second] [(.int v1)]))
      clear Ar_238 q_238 S_238 N_238 H_238 G_238 hi_238
      refine s_bipush (pc' := 31) (z := (64 : Int32)) X_232.here hx (hb hby d3_29) rfl rfl ?_
      refine Win.go (fun _ k => XS.idiv X_232.here hx rfl (hb hby d3_31) rfl (by decide) k) ?_
      show Win p.tables e below _ (T_232.setTop (mkF m 32 #[.val (.ref a), .val (.ref b), .val (.long t0), .second, .val (.int (1 : Int32)), .val (.int (1 : Int32)), .val (.long mk1_0), .second] [(.int (v1 / (64 : Int32)))]))
      refine s_iload (pc' := 34) X_232.here hx (hb hby d3_32) rfl rfl ?_
      by_cases hc34_2 : ((v1 / (64 : Int32))).toInt = (1 : Int)
      · skip
        refine s_icmpNo (pc' := 37) X_232.here hx (hb hby d3_34) rfl (teqI (x := (v1 / (64 : Int32))) (y := (1 : Int32)) hc34_2).2 ?_
        refine s_lload (pc' := 39) X_232.here hx (hb hby d3_37) rfl rfl ?_
        refine s_lconst (pc' := 40) (z := (1 : Int64)) X_232.here hx (hb hby d3_39) rfl rfl ?_
        refine s_aloadN (pc' := 41) X_232.here hx (hb hby d3_40) rfl rfl rfl ?_
        refine s_iload (pc' := 43) X_232.here hx (hb hby d3_41) rfl rfl ?_
        obtain ⟨cl_239, Ar_239, q_239, S_239, N_239, H_239, G_239⟩ := id V_b
        have hi_239 : ¬ ((1 : Int32) < 0 ∨ cl_239.slots.size ≤ ((1 : Int32)).toNatClampNeg) := inb_of S_239 ⟨by decide, by decide⟩
        refine Win.go (fun _ k => X_232.iaload hx (j := (1 : Int32)) (v := (.int v1)) (by rw [e_232]; exact Ar_239.1) (State.isArrayOf_alike hZ.alike Ar_239.2.1) Ar_239.2.2 hi_239 (H_239.at hi_239 rfl) (g := (mkF m 43 #[.val (.ref a), .val (.ref b), .val (.long t0), .second, .val (.int (1 : Int32)), .val (.int (1 : Int32)), .val (.long mk1_0), .second] [(.int (1 : Int32)), (.ref b), (.long (1 : Int64)), (.long mk1_0)])) rfl rfl (hb hby d3_43) _ k) ?_
        show Win p.tables e below _ (T_232.setTop (mkF m 44 #[.val (.ref a), .val (.ref b), .val (.long t0), .second, .val (.int (1 : Int32)), .val (.int (1 : Int32)), .val (.long mk1_0), .second] [(.int v1), (.long (1 : Int64)), (.long mk1_0)]))
        clear Ar_239 q_239 S_239 N_239 H_239 G_239 hi_239
        refine s_bipush (pc' := 46) (z := (64 : Int32)) X_232.here hx (hb hby d3_44) rfl rfl ?_
        refine Win.go (fun _ k => iremM X_232 hx rfl (hb hby d3_46) rfl (by decide) k) ?_
        show Win p.tables e below _ (T_232.setTop (mkF m 47 #[.val (.ref a), .val (.ref b), .val (.long t0), .second, .val (.int (1 : Int32)), .val (.int (1 : Int32)), .val (.long mk1_0), .second] [(.int (v1 % (64 : Int32))), (.long (1 : Int64)), (.long mk1_0)]))
        refine Win.go (fun _ k => XT.lshl X_232.here hx rfl (hb hby d3_47) rfl k) ?_
        show Win p.tables e below _ (T_232.setTop (mkF m 48 #[.val (.ref a), .val (.ref b), .val (.long t0), .second, .val (.int (1 : Int32)), .val (.int (1 : Int32)), .val (.long mk1_0), .second] [(.long ((1 : Int64) <<< ((v1 % (64 : Int32)).toInt64 &&& 63))), (.long mk1_0)]))
        refine s_lor (pc' := 49) X_232.here hx (hb hby d3_48) rfl ?_
        refine s_lstore (pc' := 51) (l' := #[.val (.ref a), .val (.ref b), .val (.long t0), .second, .val (.int (1 : Int32)), .val (.int (1 : Int32)), .val (.long (mk1_0 ||| ((1 : Int64) <<< ((v1 % (64 : Int32)).toInt64 &&& 63)))), .second]) X_232.here hx (hb hby d3_49) rfl rfl ?_
        generalize hmk1_1 : (mk1_0 ||| ((1 : Int64) <<< ((v1 % (64 : Int32)).toInt64 &&& 63))) = mk1_1
        show Win p.tables e below _ (T_232.setTop (mkF m 51 #[.val (.ref a), .val (.ref b), .val (.long t0), .second, .val (.int (1 : Int32)), .val (.int (1 : Int32)), .val (.long mk1_1), .second] []))
        refine Win.go (fun _ k => XS.iinc X_232.here hx rfl (hb hby d3_51) rfl (l' := #[.val (.ref a), .val (.ref b), .val (.long t0), .second, .val (.int (2 : Int32)), .val (.int (1 : Int32)), .val (.long mk1_1), .second]) rfl k) ?_
        show Win p.tables e below _ (T_232.setTop (mkF m 54 #[.val (.ref a), .val (.ref b), .val (.long t0), .second, .val (.int (2 : Int32)), .val (.int (1 : Int32)), .val (.long mk1_1), .second] []))
        refine s_goto (pc' := 18) X_232.here hx (hb hby d3_54) (by decide) (by decide) ?_
        refine s_iload (pc' := 20) X_232.here hx (hb hby d3_18) rfl rfl ?_
        refine s_aloadN (pc' := 21) X_232.here hx (hb hby d3_20) rfl rfl rfl ?_
        obtain ⟨cl_240, Ar_240, q_240, S_240, N_240, H_240, G_240⟩ := id V_b
        refine Win.go (fun _ k => X_232.arraylength hx (by rw [e_232]; exact Ar_240.1) (State.isArrayOf_alike hZ.alike Ar_240.2.1) (g := (mkF m 21 #[.val (.ref a), .val (.ref b), .val (.long t0), .second, .val (.int (2 : Int32)), .val (.int (1 : Int32)), .val (.long mk1_1), .second] [(.ref b), (.int (2 : Int32))])) rfl rfl (hb hby d3_21) _ k) ?_
        rw [len_of S_240 N_240]
        clear Ar_240 q_240 S_240 N_240 H_240 G_240
        show Win p.tables e below _ (T_232.setTop (mkF m 22 #[.val (.ref a), .val (.ref b), .val (.long t0), .second, .val (.int (2 : Int32)), .val (.int (1 : Int32)), .val (.long mk1_1), .second] [(.int (4 : Int32)), (.int (2 : Int32))]))
        refine s_icmpNo (pc' := 25) X_232.here hx (hb hby d3_22) rfl (tltI (x := (2 : Int32)) (y := (4 : Int32)) (by decide)).2.1 ?_
        refine s_aloadN (pc' := 26) X_232.here hx (hb hby d3_25) rfl rfl rfl ?_
        refine s_iload (pc' := 28) X_232.here hx (hb hby d3_26) rfl rfl ?_
        obtain ⟨cl_241, Ar_241, q_241, S_241, N_241, H_241, G_241⟩ := id V_b
        have hi_241 : ¬ ((2 : Int32) < 0 ∨ cl_241.slots.size ≤ ((2 : Int32)).toNatClampNeg) := inb_of S_241 ⟨by decide, by decide⟩
        refine Win.go (fun _ k => X_232.iaload hx (j := (2 : Int32)) (v := (.int v2)) (by rw [e_232]; exact Ar_241.1) (State.isArrayOf_alike hZ.alike Ar_241.2.1) Ar_241.2.2 hi_241 (H_241.at hi_241 rfl) (g := (mkF m 28 #[.val (.ref a), .val (.ref b), .val (.long t0), .second, .val (.int (2 : Int32)), .val (.int (1 : Int32)), .val (.long mk1_1), .second] [(.int (2 : Int32)), (.ref b)])) rfl rfl (hb hby d3_28) _ k) ?_
        show Win p.tables e below _ (T_232.setTop (mkF m 29 #[.val (.ref a), .val (.ref b), .val (.long t0), .second, .val (.int (2 : Int32)), .val (.int (1 : Int32)), .val (.long mk1_1), .second] [(.int v2)]))
        clear Ar_241 q_241 S_241 N_241 H_241 G_241 hi_241
        refine s_bipush (pc' := 31) (z := (64 : Int32)) X_232.here hx (hb hby d3_29) rfl rfl ?_
        refine Win.go (fun _ k => XS.idiv X_232.here hx rfl (hb hby d3_31) rfl (by decide) k) ?_
        show Win p.tables e below _ (T_232.setTop (mkF m 32 #[.val (.ref a), .val (.ref b), .val (.long t0), .second, .val (.int (2 : Int32)), .val (.int (1 : Int32)), .val (.long mk1_1), .second] [(.int (v2 / (64 : Int32)))]))
        refine s_iload (pc' := 34) X_232.here hx (hb hby d3_32) rfl rfl ?_
        by_cases hc34_3 : ((v2 / (64 : Int32))).toInt = (1 : Int)
        · skip
          refine s_icmpNo (pc' := 37) X_232.here hx (hb hby d3_34) rfl (teqI (x := (v2 / (64 : Int32))) (y := (1 : Int32)) hc34_3).2 ?_
          refine s_lload (pc' := 39) X_232.here hx (hb hby d3_37) rfl rfl ?_
          refine s_lconst (pc' := 40) (z := (1 : Int64)) X_232.here hx (hb hby d3_39) rfl rfl ?_
          refine s_aloadN (pc' := 41) X_232.here hx (hb hby d3_40) rfl rfl rfl ?_
          refine s_iload (pc' := 43) X_232.here hx (hb hby d3_41) rfl rfl ?_
          obtain ⟨cl_242, Ar_242, q_242, S_242, N_242, H_242, G_242⟩ := id V_b
          have hi_242 : ¬ ((2 : Int32) < 0 ∨ cl_242.slots.size ≤ ((2 : Int32)).toNatClampNeg) := inb_of S_242 ⟨by decide, by decide⟩
          refine Win.go (fun _ k => X_232.iaload hx (j := (2 : Int32)) (v := (.int v2)) (by rw [e_232]; exact Ar_242.1) (State.isArrayOf_alike hZ.alike Ar_242.2.1) Ar_242.2.2 hi_242 (H_242.at hi_242 rfl) (g := (mkF m 43 #[.val (.ref a), .val (.ref b), .val (.long t0), .second, .val (.int (2 : Int32)), .val (.int (1 : Int32)), .val (.long mk1_1), .second] [(.int (2 : Int32)), (.ref b), (.long (1 : Int64)), (.long mk1_1)])) rfl rfl (hb hby d3_43) _ k) ?_
          show Win p.tables e below _ (T_232.setTop (mkF m 44 #[.val (.ref a), .val (.ref b), .val (.long t0), .second, .val (.int (2 : Int32)), .val (.int (1 : Int32)), .val (.long mk1_1), .second] [(.int v2), (.long (1 : Int64)), (.long mk1_1)]))
          clear Ar_242 q_242 S_242 N_242 H_242 G_242 hi_242
          refine s_bipush (pc' := 46) (z := (64 : Int32)) X_232.here hx (hb hby d3_44) rfl rfl ?_
          refine Win.go (fun _ k => iremM X_232 hx rfl (hb hby d3_46) rfl (by decide) k) ?_
          show Win p.tables e below _ (T_232.setTop (mkF m 47 #[.val (.ref a), .val (.ref b), .val (.long t0), .second, .val (.int (2 : Int32)), .val (.int (1 : Int32)), .val (.long mk1_1), .second] [(.int (v2 % (64 : Int32))), (.long (1 : Int64)), (.long mk1_1)]))
          refine Win.go (fun _ k => XT.lshl X_232.here hx rfl (hb hby d3_47) rfl k) ?_
          show Win p.tables e below _ (T_232.setTop (mkF m 48 #[.val (.ref a), .val (.ref b), .val (.long t0), .second, .val (.int (2 : Int32)), .val (.int (1 : Int32)), .val (.long mk1_1), .second] [(.long ((1 : Int64) <<< ((v2 % (64 : Int32)).toInt64 &&& 63))), (.long mk1_1)]))
          refine s_lor (pc' := 49) X_232.here hx (hb hby d3_48) rfl ?_
          refine s_lstore (pc' := 51) (l' := #[.val (.ref a), .val (.ref b), .val (.long t0), .second, .val (.int (2 : Int32)), .val (.int (1 : Int32)), .val (.long (mk1_1 ||| ((1 : Int64) <<< ((v2 % (64 : Int32)).toInt64 &&& 63)))), .second]) X_232.here hx (hb hby d3_49) rfl rfl ?_
          generalize hmk1_2 : (mk1_1 ||| ((1 : Int64) <<< ((v2 % (64 : Int32)).toInt64 &&& 63))) = mk1_2
          show Win p.tables e below _ (T_232.setTop (mkF m 51 #[.val (.ref a), .val (.ref b), .val (.long t0), .second, .val (.int (2 : Int32)), .val (.int (1 : Int32)), .val (.long mk1_2), .second] []))
          refine Win.go (fun _ k => XS.iinc X_232.here hx rfl (hb hby d3_51) rfl (l' := #[.val (.ref a), .val (.ref b), .val (.long t0), .second, .val (.int (3 : Int32)), .val (.int (1 : Int32)), .val (.long mk1_2), .second]) rfl k) ?_
          show Win p.tables e below _ (T_232.setTop (mkF m 54 #[.val (.ref a), .val (.ref b), .val (.long t0), .second, .val (.int (3 : Int32)), .val (.int (1 : Int32)), .val (.long mk1_2), .second] []))
          refine s_goto (pc' := 18) X_232.here hx (hb hby d3_54) (by decide) (by decide) ?_
          refine s_iload (pc' := 20) X_232.here hx (hb hby d3_18) rfl rfl ?_
          refine s_aloadN (pc' := 21) X_232.here hx (hb hby d3_20) rfl rfl rfl ?_
          obtain ⟨cl_243, Ar_243, q_243, S_243, N_243, H_243, G_243⟩ := id V_b
          refine Win.go (fun _ k => X_232.arraylength hx (by rw [e_232]; exact Ar_243.1) (State.isArrayOf_alike hZ.alike Ar_243.2.1) (g := (mkF m 21 #[.val (.ref a), .val (.ref b), .val (.long t0), .second, .val (.int (3 : Int32)), .val (.int (1 : Int32)), .val (.long mk1_2), .second] [(.ref b), (.int (3 : Int32))])) rfl rfl (hb hby d3_21) _ k) ?_
          rw [len_of S_243 N_243]
          clear Ar_243 q_243 S_243 N_243 H_243 G_243
          show Win p.tables e below _ (T_232.setTop (mkF m 22 #[.val (.ref a), .val (.ref b), .val (.long t0), .second, .val (.int (3 : Int32)), .val (.int (1 : Int32)), .val (.long mk1_2), .second] [(.int (4 : Int32)), (.int (3 : Int32))]))
          refine s_icmpNo (pc' := 25) X_232.here hx (hb hby d3_22) rfl (tltI (x := (3 : Int32)) (y := (4 : Int32)) (by decide)).2.1 ?_
          refine s_aloadN (pc' := 26) X_232.here hx (hb hby d3_25) rfl rfl rfl ?_
          refine s_iload (pc' := 28) X_232.here hx (hb hby d3_26) rfl rfl ?_
          obtain ⟨cl_244, Ar_244, q_244, S_244, N_244, H_244, G_244⟩ := id V_b
          have hi_244 : ¬ ((3 : Int32) < 0 ∨ cl_244.slots.size ≤ ((3 : Int32)).toNatClampNeg) := inb_of S_244 ⟨by decide, by decide⟩
          refine Win.go (fun _ k => X_232.iaload hx (j := (3 : Int32)) (v := (.int v3)) (by rw [e_232]; exact Ar_244.1) (State.isArrayOf_alike hZ.alike Ar_244.2.1) Ar_244.2.2 hi_244 (H_244.at hi_244 rfl) (g := (mkF m 28 #[.val (.ref a), .val (.ref b), .val (.long t0), .second, .val (.int (3 : Int32)), .val (.int (1 : Int32)), .val (.long mk1_2), .second] [(.int (3 : Int32)), (.ref b)])) rfl rfl (hb hby d3_28) _ k) ?_
          show Win p.tables e below _ (T_232.setTop (mkF m 29 #[.val (.ref a), .val (.ref b), .val (.long t0), .second, .val (.int (3 : Int32)), .val (.int (1 : Int32)), .val (.long mk1_2), .second] [(.int v3)]))
          clear Ar_244 q_244 S_244 N_244 H_244 G_244 hi_244
          refine s_bipush (pc' := 31) (z := (64 : Int32)) X_232.here hx (hb hby d3_29) rfl rfl ?_
          refine Win.go (fun _ k => XS.idiv X_232.here hx rfl (hb hby d3_31) rfl (by decide) k) ?_
          show Win p.tables e below _ (T_232.setTop (mkF m 32 #[.val (.ref a), .val (.ref b), .val (.long t0), .second, .val (.int (3 : Int32)), .val (.int (1 : Int32)), .val (.long mk1_2), .second] [(.int (v3 / (64 : Int32)))]))
          refine s_iload (pc' := 34) X_232.here hx (hb hby d3_32) rfl rfl ?_
          by_cases hc34_4 : ((v3 / (64 : Int32))).toInt = (1 : Int)
          · skip
            refine s_icmpNo (pc' := 37) X_232.here hx (hb hby d3_34) rfl (teqI (x := (v3 / (64 : Int32))) (y := (1 : Int32)) hc34_4).2 ?_
            refine s_lload (pc' := 39) X_232.here hx (hb hby d3_37) rfl rfl ?_
            refine s_lconst (pc' := 40) (z := (1 : Int64)) X_232.here hx (hb hby d3_39) rfl rfl ?_
            refine s_aloadN (pc' := 41) X_232.here hx (hb hby d3_40) rfl rfl rfl ?_
            refine s_iload (pc' := 43) X_232.here hx (hb hby d3_41) rfl rfl ?_
            obtain ⟨cl_245, Ar_245, q_245, S_245, N_245, H_245, G_245⟩ := id V_b
            have hi_245 : ¬ ((3 : Int32) < 0 ∨ cl_245.slots.size ≤ ((3 : Int32)).toNatClampNeg) := inb_of S_245 ⟨by decide, by decide⟩
            refine Win.go (fun _ k => X_232.iaload hx (j := (3 : Int32)) (v := (.int v3)) (by rw [e_232]; exact Ar_245.1) (State.isArrayOf_alike hZ.alike Ar_245.2.1) Ar_245.2.2 hi_245 (H_245.at hi_245 rfl) (g := (mkF m 43 #[.val (.ref a), .val (.ref b), .val (.long t0), .second, .val (.int (3 : Int32)), .val (.int (1 : Int32)), .val (.long mk1_2), .second] [(.int (3 : Int32)), (.ref b), (.long (1 : Int64)), (.long mk1_2)])) rfl rfl (hb hby d3_43) _ k) ?_
            show Win p.tables e below _ (T_232.setTop (mkF m 44 #[.val (.ref a), .val (.ref b), .val (.long t0), .second, .val (.int (3 : Int32)), .val (.int (1 : Int32)), .val (.long mk1_2), .second] [(.int v3), (.long (1 : Int64)), (.long mk1_2)]))
            clear Ar_245 q_245 S_245 N_245 H_245 G_245 hi_245
            refine s_bipush (pc' := 46) (z := (64 : Int32)) X_232.here hx (hb hby d3_44) rfl rfl ?_
            refine Win.go (fun _ k => iremM X_232 hx rfl (hb hby d3_46) rfl (by decide) k) ?_
            show Win p.tables e below _ (T_232.setTop (mkF m 47 #[.val (.ref a), .val (.ref b), .val (.long t0), .second, .val (.int (3 : Int32)), .val (.int (1 : Int32)), .val (.long mk1_2), .second] [(.int (v3 % (64 : Int32))), (.long (1 : Int64)), (.long mk1_2)]))
            refine Win.go (fun _ k => XT.lshl X_232.here hx rfl (hb hby d3_47) rfl k) ?_
            show Win p.tables e below _ (T_232.setTop (mkF m 48 #[.val (.ref a), .val (.ref b), .val (.long t0), .second, .val (.int (3 : Int32)), .val (.int (1 : Int32)), .val (.long mk1_2), .second] [(.long ((1 : Int64) <<< ((v3 % (64 : Int32)).toInt64 &&& 63))), (.long mk1_2)]))
            refine s_lor (pc' := 49) X_232.here hx (hb hby d3_48) rfl ?_
            refine s_lstore (pc' := 51) (l' := #[.val (.ref a), .val (.ref b), .val (.long t0), .second, .val (.int (3 : Int32)), .val (.int (1 : Int32)), .val (.long (mk1_2 ||| ((1 : Int64) <<< ((v3 % (64 : Int32)).toInt64 &&& 63)))), .second]) X_232.here hx (hb hby d3_49) rfl rfl ?_
            generalize hmk1_3 : (mk1_2 ||| ((1 : Int64) <<< ((v3 % (64 : Int32)).toInt64 &&& 63))) = mk1_3
            show Win p.tables e below _ (T_232.setTop (mkF m 51 #[.val (.ref a), .val (.ref b), .val (.long t0), .second, .val (.int (3 : Int32)), .val (.int (1 : Int32)), .val (.long mk1_3), .second] []))
            refine Win.go (fun _ k => XS.iinc X_232.here hx rfl (hb hby d3_51) rfl (l' := #[.val (.ref a), .val (.ref b), .val (.long t0), .second, .val (.int (4 : Int32)), .val (.int (1 : Int32)), .val (.long mk1_3), .second]) rfl k) ?_
            show Win p.tables e below _ (T_232.setTop (mkF m 54 #[.val (.ref a), .val (.ref b), .val (.long t0), .second, .val (.int (4 : Int32)), .val (.int (1 : Int32)), .val (.long mk1_3), .second] []))
            refine s_goto (pc' := 18) X_232.here hx (hb hby d3_54) (by decide) (by decide) ?_
            refine s_iload (pc' := 20) X_232.here hx (hb hby d3_18) rfl rfl ?_
            refine s_aloadN (pc' := 21) X_232.here hx (hb hby d3_20) rfl rfl rfl ?_
            obtain ⟨cl_246, Ar_246, q_246, S_246, N_246, H_246, G_246⟩ := id V_b
            refine Win.go (fun _ k => X_232.arraylength hx (by rw [e_232]; exact Ar_246.1) (State.isArrayOf_alike hZ.alike Ar_246.2.1) (g := (mkF m 21 #[.val (.ref a), .val (.ref b), .val (.long t0), .second, .val (.int (4 : Int32)), .val (.int (1 : Int32)), .val (.long mk1_3), .second] [(.ref b), (.int (4 : Int32))])) rfl rfl (hb hby d3_21) _ k) ?_
            rw [len_of S_246 N_246]
            clear Ar_246 q_246 S_246 N_246 H_246 G_246
            show Win p.tables e below _ (T_232.setTop (mkF m 22 #[.val (.ref a), .val (.ref b), .val (.long t0), .second, .val (.int (4 : Int32)), .val (.int (1 : Int32)), .val (.long mk1_3), .second] [(.int (4 : Int32)), (.int (4 : Int32))]))
            refine s_icmpYes (pc' := 57) X_232.here hx (hb hby d3_22) (fltI (x := (4 : Int32)) (y := (4 : Int32)) (by decide)).2.1 (by decide) (by decide) ?_
            refine s_lloadN (pc' := 58) X_232.here hx (hb hby d3_57) rfl rfl ?_
            refine s_aloadN (pc' := 59) X_232.here hx (hb hby d3_58) rfl rfl rfl ?_
            refine s_iload (pc' := 61) X_232.here hx (hb hby d3_59) rfl rfl ?_
            obtain ⟨cl_247, Ar_247, q_247, S_247, N_247, H_247, G_247⟩ := id V_a
            have hi_247 : ¬ ((1 : Int32) < 0 ∨ cl_247.slots.size ≤ ((1 : Int32)).toNatClampNeg) := inb_of S_247 ⟨by decide, by decide⟩
            refine Win.go (fun _ k => X_232.laload hx (j := (1 : Int32)) (v := (.long u1)) (by rw [e_232]; exact Ar_247.1) (State.isArrayOf_alike hZ.alike Ar_247.2.1) Ar_247.2.2 hi_247 (H_247.at hi_247 rfl) (g := (mkF m 61 #[.val (.ref a), .val (.ref b), .val (.long t0), .second, .val (.int (4 : Int32)), .val (.int (1 : Int32)), .val (.long mk1_3), .second] [(.int (1 : Int32)), (.ref a), (.long t0)])) rfl rfl (hb hby d3_61) _ k) ?_
            show Win p.tables e below _ (T_232.setTop (mkF m 62 #[.val (.ref a), .val (.ref b), .val (.long t0), .second, .val (.int (4 : Int32)), .val (.int (1 : Int32)), .val (.long mk1_3), .second] [(.long u1), (.long t0)]))
            clear Ar_247 q_247 S_247 N_247 H_247 G_247 hi_247
            refine s_lload (pc' := 64) X_232.here hx (hb hby d3_62) rfl rfl ?_
            refine Win.go (fun _ k => X_232.ldc2Long hx hown (mvT hZ (hw _ (List.mem_of_getElem? (i := 14) rfl))) (g := (mkF m 64 #[.val (.ref a), .val (.ref b), .val (.long t0), .second, .val (.int (4 : Int32)), .val (.int (1 : Int32)), .val (.long mk1_3), .second] [(.long mk1_3), (.long u1), (.long t0)])) rfl (hb hby d3_64) _ k) ?_
            show Win p.tables e below _ (T_232.setTop (mkF m 67 #[.val (.ref a), .val (.ref b), .val (.long t0), .second, .val (.int (4 : Int32)), .val (.int (1 : Int32)), .val (.long mk1_3), .second] [(.long (-1 : Int64)), (.long mk1_3), (.long u1), (.long t0)]))
            refine s_lxor (pc' := 68) X_232.here hx (hb hby d3_67) rfl ?_
            refine s_land (pc' := 69) X_232.here hx (hb hby d3_68) rfl ?_
            refine s_lor (pc' := 70) X_232.here hx (hb hby d3_69) rfl ?_
            refine s_lstoreN (pc' := 71) (l' := #[.val (.ref a), .val (.ref b), .val (.long (t0 ||| (u1 &&& (mk1_3 ^^^ (-1 : Int64))))), .second, .val (.int (4 : Int32)), .val (.int (1 : Int32)), .val (.long mk1_3), .second]) X_232.here hx (hb hby d3_70) rfl rfl ?_
            generalize ht1 : (t0 ||| (u1 &&& (mk1_3 ^^^ (-1 : Int64)))) = t1
            show Win p.tables e below _ (T_232.setTop (mkF m 71 #[.val (.ref a), .val (.ref b), .val (.long t1), .second, .val (.int (4 : Int32)), .val (.int (1 : Int32)), .val (.long mk1_3), .second] []))
            refine s_aloadN (pc' := 72) X_232.here hx (hb hby d3_71) rfl rfl rfl ?_
            refine s_iload (pc' := 74) X_232.here hx (hb hby d3_72) rfl rfl ?_
            refine Win.go (fun _ k => XT.dup2 X_232.here hx rfl (hb hby d3_74) rfl rfl rfl k) ?_
            show Win p.tables e below _ (T_232.setTop (mkF m 75 #[.val (.ref a), .val (.ref b), .val (.long t1), .second, .val (.int (4 : Int32)), .val (.int (1 : Int32)), .val (.long mk1_3), .second] [(.int (1 : Int32)), (.ref a), (.int (1 : Int32)), (.ref a)]))
            obtain ⟨cl_248, Ar_248, q_248, S_248, N_248, H_248, G_248⟩ := id V_a
            have hi_248 : ¬ ((1 : Int32) < 0 ∨ cl_248.slots.size ≤ ((1 : Int32)).toNatClampNeg) := inb_of S_248 ⟨by decide, by decide⟩
            refine Win.go (fun _ k => X_232.laload hx (j := (1 : Int32)) (v := (.long u1)) (by rw [e_232]; exact Ar_248.1) (State.isArrayOf_alike hZ.alike Ar_248.2.1) Ar_248.2.2 hi_248 (H_248.at hi_248 rfl) (g := (mkF m 75 #[.val (.ref a), .val (.ref b), .val (.long t1), .second, .val (.int (4 : Int32)), .val (.int (1 : Int32)), .val (.long mk1_3), .second] [(.int (1 : Int32)), (.ref a), (.int (1 : Int32)), (.ref a)])) rfl rfl (hb hby d3_75) _ k) ?_
            show Win p.tables e below _ (T_232.setTop (mkF m 76 #[.val (.ref a), .val (.ref b), .val (.long t1), .second, .val (.int (4 : Int32)), .val (.int (1 : Int32)), .val (.long mk1_3), .second] [(.long u1), (.int (1 : Int32)), (.ref a)]))
            clear Ar_248 q_248 S_248 N_248 H_248 G_248 hi_248
            refine s_lload (pc' := 78) X_232.here hx (hb hby d3_76) rfl rfl ?_
            refine s_land (pc' := 79) X_232.here hx (hb hby d3_78) rfl ?_
            obtain ⟨cl_249, Ar_249, q_249, S_249, N_249, H_249, G_249⟩ := V_a
            obtain ⟨T_249, h_249, X_249, e_249, W_249, st_249⟩ := stJ X_232 hx hZ e_232 Ar_249 (j := (1 : Int32)) (inb_of S_249 ⟨by decide, by decide⟩) (g := (mkF m 79 #[.val (.ref a), .val (.ref b), .val (.long t1), .second, .val (.int (4 : Int32)), .val (.int (1 : Int32)), .val (.long mk1_3), .second] [(.long (u1 &&& mk1_3)), (.int (1 : Int32)), (.ref a)])) rfl rfl (hb hby d3_79)
            have V_249 := Arv.set Ar_249 q_249 S_249 N_249 H_249 G_249 rfl W_249 1 rfl (Nat.le_of_ble_eq_true rfl)
            replace V_b := V_b.other W_249 ne_b_a
            replace lt_a := Nat.lt_of_lt_of_le lt_a (Keep.of_wr W_249).1
            replace lt_b := Nat.lt_of_lt_of_le lt_b (Keep.of_wr W_249).1
            replace Zs := Nat.le_trans Zs (Keep.of_wr W_249).1
            replace Kp := Kp.wr W_249 (Or.inl (by simp))
            replace V_a : Arv Z h_249 a ka .long (2 : Int32) [(.long (u0 &&& (0 : Int64))), (.long (u1 &&& mk1_3))] (.long (0 : Int64)) := V_249
            replace Nf := Fr.snoc X_249 Nf g_a
            refine Win.go st_249 ?_
            clear st_249 W_249 V_249 Ar_249 q_249 S_249 N_249 H_249 G_249 X_232 e_232
            show Win p.tables e below _ (T_249.setTop (mkF m 80 #[.val (.ref a), .val (.ref b), .val (.long t1), .second, .val (.int (4 : Int32)), .val (.int (1 : Int32)), .val (.long mk1_3), .second] []))
            refine Win.go (fun _ k => XS.iinc X_249.here hx rfl (hb hby d3_80) rfl (l' := #[.val (.ref a), .val (.ref b), .val (.long t1), .second, .val (.int (4 : Int32)), .val (.int (2 : Int32)), .val (.long mk1_3), .second]) rfl k) ?_
            show Win p.tables e below _ (T_249.setTop (mkF m 83 #[.val (.ref a), .val (.ref b), .val (.long t1), .second, .val (.int (4 : Int32)), .val (.int (2 : Int32)), .val (.long mk1_3), .second] []))
            refine s_goto (pc' := 8) X_249.here hx (hb hby d3_83) (by decide) (by decide) ?_
            refine s_iload (pc' := 10) X_249.here hx (hb hby d3_8) rfl rfl ?_
            refine s_aloadN (pc' := 11) X_249.here hx (hb hby d3_10) rfl rfl rfl ?_
            obtain ⟨cl_250, Ar_250, q_250, S_250, N_250, H_250, G_250⟩ := id V_a
            refine Win.go (fun _ k => X_249.arraylength hx (by rw [e_249]; exact Ar_250.1) (State.isArrayOf_alike hZ.alike Ar_250.2.1) (g := (mkF m 11 #[.val (.ref a), .val (.ref b), .val (.long t1), .second, .val (.int (4 : Int32)), .val (.int (2 : Int32)), .val (.long mk1_3), .second] [(.ref a), (.int (2 : Int32))])) rfl rfl (hb hby d3_11) _ k) ?_
            rw [len_of S_250 N_250]
            clear Ar_250 q_250 S_250 N_250 H_250 G_250
            show Win p.tables e below _ (T_249.setTop (mkF m 12 #[.val (.ref a), .val (.ref b), .val (.long t1), .second, .val (.int (4 : Int32)), .val (.int (2 : Int32)), .val (.long mk1_3), .second] [(.int (2 : Int32)), (.int (2 : Int32))]))
            refine s_icmpYes (pc' := 86) X_249.here hx (hb hby d3_12) (fltI (x := (2 : Int32)) (y := (2 : Int32)) (by decide)).2.1 (by decide) (by decide) ?_
            refine s_lloadN (pc' := 87) X_249.here hx (hb hby d3_86) rfl rfl ?_
            refine s_lconst (pc' := 88) (z := (0 : Int64)) X_249.here hx (hb hby d3_87) rfl rfl ?_
            refine s_lcmp (pc' := 89) X_249.here hx (hb hby d3_88) rfl ?_
            by_cases hc89_5 : (t1).toInt = (0 : Int)
            · skip
              refine s_ifYes (pc' := 96) X_249.here hx (hb hby d3_89) (teqL (x := t1) (y := (0 : Int64)) hc89_5).1 (by decide) (by decide) ?_
              refine s_iconst (pc' := 97) (z := (0 : Int32)) X_249.here hx (hb hby d3_96) rfl rfl ?_
              refine winN X_249 hx hlk e_249 (t := .boolean) Bd.returns (by simp) (hb hby d3_97) (by decide) (by decide) (z' := (0 : Int32)) rfl ?_
              have e0 := own_hi (v := v0) (by omega) (by omega)
              have e1 := own_hi (v := v1) (by omega) (by omega)
              have e2 := own_hi (v := v2) (by omega) (by omega)
              have e3 := own_hi (v := v3) (by omega) (by omega)
              have mA : ((((bit0 v0) ||| (bit0 v1)) ||| (bit0 v2)) ||| (bit0 v3)) = (0 : Int64) := by simp only [e0.1, e0.2, e1.1, e1.2, e2.1, e2.2, e3.1, e3.2, Int64.or_zero, Int64.zero_or]
              have mB : ((((bit1 v0) ||| (bit1 v1)) ||| (bit1 v2)) ||| (bit1 v3)) = mk1_3 := by rw [← hmk1_3, ← hmk1_2, ← hmk1_1, ← hmk1_0]; simp only [e0.1, e0.2, e1.1, e1.2, e2.1, e2.2, e3.1, e3.2, Int64.or_zero, Int64.zero_or]
              have tt : (((0 : Int64) ||| (u0 &&& (((((bit0 v0) ||| (bit0 v1)) ||| (bit0 v2)) ||| (bit0 v3)) ^^^ (-1 : Int64)))) ||| (u1 &&& (((((bit1 v0) ||| (bit1 v1)) ||| (bit1 v2)) ||| (bit1 v3)) ^^^ (-1 : Int64)))) = t1 := by rw [mA, mB, show ((0 : Int64) ^^^ (-1 : Int64)) = -1 from by decide, ht0, ht1]
              refine ⟨Nf, Kp, by rw [mA, mB]; exact V_a, _, rfl, Or.inr ⟨rfl, ?_⟩⟩
              rw [tt]
              exact fun q => q hc89_5
            · skip
              refine s_ifNo (pc' := 92) X_249.here hx (hb hby d3_89) rfl (feqL (x := t1) (y := (0 : Int64)) hc89_5).1 ?_
              refine s_iconst (pc' := 93) (z := (1 : Int32)) X_249.here hx (hb hby d3_92) rfl rfl ?_
              refine s_goto (pc' := 97) X_249.here hx (hb hby d3_93) (by decide) (by decide) ?_
              refine winN X_249 hx hlk e_249 (t := .boolean) Bd.returns (by simp) (hb hby d3_97) (by decide) (by decide) (z' := (1 : Int32)) rfl ?_
              have e0 := own_hi (v := v0) (by omega) (by omega)
              have e1 := own_hi (v := v1) (by omega) (by omega)
              have e2 := own_hi (v := v2) (by omega) (by omega)
              have e3 := own_hi (v := v3) (by omega) (by omega)
              have mA : ((((bit0 v0) ||| (bit0 v1)) ||| (bit0 v2)) ||| (bit0 v3)) = (0 : Int64) := by simp only [e0.1, e0.2, e1.1, e1.2, e2.1, e2.2, e3.1, e3.2, Int64.or_zero, Int64.zero_or]
              have mB : ((((bit1 v0) ||| (bit1 v1)) ||| (bit1 v2)) ||| (bit1 v3)) = mk1_3 := by rw [← hmk1_3, ← hmk1_2, ← hmk1_1, ← hmk1_0]; simp only [e0.1, e0.2, e1.1, e1.2, e2.1, e2.2, e3.1, e3.2, Int64.or_zero, Int64.zero_or]
              have tt : (((0 : Int64) ||| (u0 &&& (((((bit0 v0) ||| (bit0 v1)) ||| (bit0 v2)) ||| (bit0 v3)) ^^^ (-1 : Int64)))) ||| (u1 &&& (((((bit1 v0) ||| (bit1 v1)) ||| (bit1 v2)) ||| (bit1 v3)) ^^^ (-1 : Int64)))) = t1 := by rw [mA, mB, show ((0 : Int64) ^^^ (-1 : Int64)) = -1 from by decide, ht0, ht1]
              refine ⟨Nf, Kp, by rw [mA, mB]; exact V_a, _, rfl, Or.inl ⟨rfl, ?_⟩⟩
              rw [tt]
              exact hc89_5
          · skip
            exfalso
            omega
        · skip
          exfalso
          omega
      · skip
        exfalso
        omega
    · skip
      exfalso
      omega
theorem pd_0 : parseMethodDescriptor "(IIIII)[I" = some ⟨[.int, .int, .int, .int, .int], some (.array .int)⟩ := by decide +kernel
theorem pd_1 : parseMethodDescriptor "(IIZ)J" = some ⟨[.int, .int, .boolean], some .long⟩ := by decide +kernel
theorem pd_2 : parseMethodDescriptor "([J[I)Z" = some ⟨[(.array .long), (.array .int)], some .boolean⟩ := by decide +kernel
theorem pd_3 : parseMethodDescriptor "(II)I" = some ⟨[.int, .int], some .int⟩ := by decide +kernel
theorem ef_0 (m : MethodId) (q0 : Int64) (q1 : Int64) (p4 : Int32) (p5 : Int32) : entryFrame m #[(.long q0), (.long q1), (.int p4), (.int p5)] maxLocals = mkF m 0 #[.val (.long q0), .second, .val (.long q1), .second, .val (.int p4), .val (.int p5), .unset, .unset, .unset, .unset, .unset, .unset, .unset, .unset, .unset, .unset, .unset, .unset, .unset] [] := by first | (simp [entryFrame, mkF, argsToLocals, Value.category, maxLocals]; done) | rfl
def Q0 (Z : State) (q0 : Int64) (q1 : Int64) (p4 : Int32) (p5 : Int32) (h0 : Heap) (n0 : Nat) (v : Option Value) (h : Heap) (L : List Loc) : Prop := Fr n0 L ∧ v = some (.int 1)
set_option maxRecDepth 65536 in
set_option maxHeartbeats 40000000 in
theorem rm0 (l : Launch) (Z : State) (a0 : Array Value) (hw : ∀ d ∈ tables_1, d.before a0 Z = true) (ws : List Jvm.Cond) (q0 : Int64) (q1 : Int64) (p4 : Int32) (p5 : Int32) (h0 : Heap) (n0 : Nat) (Zs : n0 ≤ h0.size) :
    MetFree l x (head1 (Jvm.Cond.code x code maxLocals ret :: ws) room_1) (fun as' U => as' = #[(.long q0), (.long q1), (.int p4), (.int p5)] ∧ Z.Warmed39 U.vm ∧ U.heap = h0) (fun _ _ _ _ _ => True) (fun _ U o U' => ∃ v L, o = .returned v ∧ Q0 Z q0 q1 p4 p5 h0 n0 v U'.heap L ∧ FrameEnd U o U' L room_1.cells room_1.slots) := by
  refine MetFree.of_bodySF (plainFor_of_name pn_1) hisR ?_
  intro p e s m args below meth c s₁ Bd hml0 hP hK
  obtain ⟨rfl, hZ, hh⟩ := hP
  have hx := Bd.exec
  have hby := Bd.bytes
  have hml : c.maxLocals = 19 := hml0
  have hown : s.vm.findClass "com/example/faithful_deputy/faithfuldeputy/BitsKeepOnlyPinLaw" = some m.cls := findClass_of_methodNamed Bd.named
  have hnm := (name_of_methodNamed Bd.named Bd.method).1
  have hlk : meth.locks = false := Bd.notSynchronized
  have X0 : Stand p l e room_1 s m #[(.long q0), (.long q1), (.int p4), (.int p5)] below meth c s₁ [] 0 0 := Stand.of_body Bd
  have e0 : s₁.heap = h0 := by rw [← hh, Bd.state]; rfl
  have Nf := Fr.nil n0
  refine (?_ : Win p.tables e below (PostQ s (Q0 Z q0 q1 p4 p5 h0 n0) room_1.cells room_1.slots) (s₁.setTop (entryFrame m #[(.long q0), (.long q1), (.int p4), (.int p5)] maxLocals)))
  rw [ef_0]
  show Win p.tables e below _ (s₁.setTop (mkF m 0 #[.val (.long q0), .second, .val (.long q1), .second, .val (.int p4), .val (.int p5), .unset, .unset, .unset, .unset, .unset, .unset, .unset, .unset, .unset, .unset, .unset, .unset, .unset] []))
  refine s_iload (pc' := 2) X0.here hx (hb hby at_0) rfl rfl ?_
  refine s_bipush (pc' := 4) (z := (127 : Int32)) X0.here hx (hb hby at_2) rfl rfl ?_
  refine s_iand (pc' := 5) X0.here hx (hb hby at_4) rfl ?_
  refine s_istore (pc' := 7) (l' := #[.val (.long q0), .second, .val (.long q1), .second, .val (.int p4), .val (.int p5), .val (.int (p4 &&& (127 : Int32))), .unset, .unset, .unset, .unset, .unset, .unset, .unset, .unset, .unset, .unset, .unset, .unset]) X0.here hx (hb hby at_5) rfl rfl ?_
  generalize hnu0 : (p4 &&& (127 : Int32)) = nu0
  show Win p.tables e below _ (s₁.setTop (mkF m 7 #[.val (.long q0), .second, .val (.long q1), .second, .val (.int p4), .val (.int p5), .val (.int nu0), .unset, .unset, .unset, .unset, .unset, .unset, .unset, .unset, .unset, .unset, .unset, .unset] []))
  have bn0 : 0 ≤ nu0.toInt ∧ nu0.toInt ≤ 127 := hnu0 ▸ c_and p4 127 (by decide)
  refine s_iload (pc' := 9) X0.here hx (hb hby at_7) rfl rfl ?_
  refine s_iconst (pc' := 10) (z := (1 : Int32)) X0.here hx (hb hby at_9) rfl rfl ?_
  refine s_iadd (pc' := 11) X0.here hx (hb hby at_10) rfl ?_
  refine s_iload (pc' := 13) X0.here hx (hb hby at_11) rfl rfl ?_
  refine s_bipush (pc' := 15) (z := (7 : Int32)) X0.here hx (hb hby at_13) rfl rfl ?_
  refine Win.go (fun _ k => XT.iushr X0.here hx rfl (hb hby at_15) rfl k) ?_
  show Win p.tables e below _ (s₁.setTop (mkF m 16 #[.val (.long q0), .second, .val (.long q1), .second, .val (.int p4), .val (.int p5), .val (.int nu0), .unset, .unset, .unset, .unset, .unset, .unset, .unset, .unset, .unset, .unset, .unset, .unset] [(.int (XT.ushr p4 (7 : Int32))), (.int (nu0 + (1 : Int32)))]))
  refine s_bipush (pc' := 18) (z := (63 : Int32)) X0.here hx (hb hby at_16) rfl rfl ?_
  refine s_iand (pc' := 19) X0.here hx (hb hby at_18) rfl ?_
  refine s_iadd (pc' := 20) X0.here hx (hb hby at_19) rfl ?_
  refine s_istore (pc' := 22) (l' := #[.val (.long q0), .second, .val (.long q1), .second, .val (.int p4), .val (.int p5), .val (.int nu0), .val (.int ((nu0 + (1 : Int32)) + ((XT.ushr p4 (7 : Int32)) &&& (63 : Int32)))), .unset, .unset, .unset, .unset, .unset, .unset, .unset, .unset, .unset, .unset, .unset]) X0.here hx (hb hby at_20) rfl rfl ?_
  generalize hnu1 : ((nu0 + (1 : Int32)) + ((XT.ushr p4 (7 : Int32)) &&& (63 : Int32))) = nu1
  show Win p.tables e below _ (s₁.setTop (mkF m 22 #[.val (.long q0), .second, .val (.long q1), .second, .val (.int p4), .val (.int p5), .val (.int nu0), .val (.int nu1), .unset, .unset, .unset, .unset, .unset, .unset, .unset, .unset, .unset, .unset, .unset] []))
  have bnu1 : nu0.toInt + 1 ≤ nu1.toInt ∧ nu1.toInt ≤ nu0.toInt + 64 := by
    have h1 := c_and (XT.ushr p4 (7 : Int32)) 63 (by decide)
    have h2 := c_iadd nu0 1
    have h3 := c_iadd (nu0 + 1) ((XT.ushr p4 (7 : Int32)) &&& (63 : Int32))
    rw [hnu1] at h3
    have h4 := rng32 nu1
    have h5 := rng32 (nu0 + 1)
    have h6 : (1 : Int32).toInt = 1 := rfl
    have h7 : (63 : Int32).toInt = 63 := rfl
    omega
  refine s_iload (pc' := 24) X0.here hx (hb hby at_22) rfl rfl ?_
  refine s_iconst (pc' := 25) (z := (1 : Int32)) X0.here hx (hb hby at_24) rfl rfl ?_
  refine s_iadd (pc' := 26) X0.here hx (hb hby at_25) rfl ?_
  refine s_iload (pc' := 28) X0.here hx (hb hby at_26) rfl rfl ?_
  refine s_bipush (pc' := 30) (z := (13 : Int32)) X0.here hx (hb hby at_28) rfl rfl ?_
  refine Win.go (fun _ k => XT.iushr X0.here hx rfl (hb hby at_30) rfl k) ?_
  show Win p.tables e below _ (s₁.setTop (mkF m 31 #[.val (.long q0), .second, .val (.long q1), .second, .val (.int p4), .val (.int p5), .val (.int nu0), .val (.int nu1), .unset, .unset, .unset, .unset, .unset, .unset, .unset, .unset, .unset, .unset, .unset] [(.int (XT.ushr p4 (13 : Int32))), (.int (nu1 + (1 : Int32)))]))
  refine s_bipush (pc' := 33) (z := (63 : Int32)) X0.here hx (hb hby at_31) rfl rfl ?_
  refine s_iand (pc' := 34) X0.here hx (hb hby at_33) rfl ?_
  refine s_iadd (pc' := 35) X0.here hx (hb hby at_34) rfl ?_
  refine s_istore (pc' := 37) (l' := #[.val (.long q0), .second, .val (.long q1), .second, .val (.int p4), .val (.int p5), .val (.int nu0), .val (.int nu1), .val (.int ((nu1 + (1 : Int32)) + ((XT.ushr p4 (13 : Int32)) &&& (63 : Int32)))), .unset, .unset, .unset, .unset, .unset, .unset, .unset, .unset, .unset, .unset]) X0.here hx (hb hby at_35) rfl rfl ?_
  generalize hnu2 : ((nu1 + (1 : Int32)) + ((XT.ushr p4 (13 : Int32)) &&& (63 : Int32))) = nu2
  show Win p.tables e below _ (s₁.setTop (mkF m 37 #[.val (.long q0), .second, .val (.long q1), .second, .val (.int p4), .val (.int p5), .val (.int nu0), .val (.int nu1), .val (.int nu2), .unset, .unset, .unset, .unset, .unset, .unset, .unset, .unset, .unset, .unset] []))
  have bnu2 : nu1.toInt + 1 ≤ nu2.toInt ∧ nu2.toInt ≤ nu1.toInt + 64 := by
    have h1 := c_and (XT.ushr p4 (13 : Int32)) 63 (by decide)
    have h2 := c_iadd nu1 1
    have h3 := c_iadd (nu1 + 1) ((XT.ushr p4 (13 : Int32)) &&& (63 : Int32))
    rw [hnu2] at h3
    have h4 := rng32 nu2
    have h5 := rng32 (nu1 + 1)
    have h6 : (1 : Int32).toInt = 1 := rfl
    have h7 : (63 : Int32).toInt = 63 := rfl
    omega
  refine s_iload (pc' := 39) X0.here hx (hb hby at_37) rfl rfl ?_
  refine s_iconst (pc' := 40) (z := (1 : Int32)) X0.here hx (hb hby at_39) rfl rfl ?_
  refine s_iadd (pc' := 41) X0.here hx (hb hby at_40) rfl ?_
  refine s_iload (pc' := 43) X0.here hx (hb hby at_41) rfl rfl ?_
  refine s_bipush (pc' := 45) (z := (19 : Int32)) X0.here hx (hb hby at_43) rfl rfl ?_
  refine Win.go (fun _ k => XT.iushr X0.here hx rfl (hb hby at_45) rfl k) ?_
  show Win p.tables e below _ (s₁.setTop (mkF m 46 #[.val (.long q0), .second, .val (.long q1), .second, .val (.int p4), .val (.int p5), .val (.int nu0), .val (.int nu1), .val (.int nu2), .unset, .unset, .unset, .unset, .unset, .unset, .unset, .unset, .unset, .unset] [(.int (XT.ushr p4 (19 : Int32))), (.int (nu2 + (1 : Int32)))]))
  refine s_bipush (pc' := 48) (z := (63 : Int32)) X0.here hx (hb hby at_46) rfl rfl ?_
  refine s_iand (pc' := 49) X0.here hx (hb hby at_48) rfl ?_
  refine s_iadd (pc' := 50) X0.here hx (hb hby at_49) rfl ?_
  refine s_istore (pc' := 52) (l' := #[.val (.long q0), .second, .val (.long q1), .second, .val (.int p4), .val (.int p5), .val (.int nu0), .val (.int nu1), .val (.int nu2), .val (.int ((nu2 + (1 : Int32)) + ((XT.ushr p4 (19 : Int32)) &&& (63 : Int32)))), .unset, .unset, .unset, .unset, .unset, .unset, .unset, .unset, .unset]) X0.here hx (hb hby at_50) rfl rfl ?_
  generalize hnu3 : ((nu2 + (1 : Int32)) + ((XT.ushr p4 (19 : Int32)) &&& (63 : Int32))) = nu3
  show Win p.tables e below _ (s₁.setTop (mkF m 52 #[.val (.long q0), .second, .val (.long q1), .second, .val (.int p4), .val (.int p5), .val (.int nu0), .val (.int nu1), .val (.int nu2), .val (.int nu3), .unset, .unset, .unset, .unset, .unset, .unset, .unset, .unset, .unset] []))
  have bnu3 : nu2.toInt + 1 ≤ nu3.toInt ∧ nu3.toInt ≤ nu2.toInt + 64 := by
    have h1 := c_and (XT.ushr p4 (19 : Int32)) 63 (by decide)
    have h2 := c_iadd nu2 1
    have h3 := c_iadd (nu2 + 1) ((XT.ushr p4 (19 : Int32)) &&& (63 : Int32))
    rw [hnu3] at h3
    have h4 := rng32 nu3
    have h5 := rng32 (nu2 + 1)
    have h6 : (1 : Int32).toInt = 1 := rfl
    have h7 : (63 : Int32).toInt = 63 := rfl
    omega
  refine s_iload (pc' := 54) X0.here hx (hb hby at_52) rfl rfl ?_
  refine Win.go (fun _ k => X0.ldcInt hx hown (mvT hZ (hw _ (List.mem_of_getElem? (i := 0) rfl))) (g := (mkF m 54 #[.val (.long q0), .second, .val (.long q1), .second, .val (.int p4), .val (.int p5), .val (.int nu0), .val (.int nu1), .val (.int nu2), .val (.int nu3), .unset, .unset, .unset, .unset, .unset, .unset, .unset, .unset, .unset] [(.int p5)])) rfl (hb hby at_54) _ k) ?_
  show Win p.tables e below _ (s₁.setTop (mkF m 56 #[.val (.long q0), .second, .val (.long q1), .second, .val (.int p4), .val (.int p5), .val (.int nu0), .val (.int nu1), .val (.int nu2), .val (.int nu3), .unset, .unset, .unset, .unset, .unset, .unset, .unset, .unset, .unset] [(.int (2147483647 : Int32)), (.int p5)]))
  refine s_iand (pc' := 57) X0.here hx (hb hby at_56) rfl ?_
  refine s_iconst (pc' := 58) (z := (5 : Int32)) X0.here hx (hb hby at_57) rfl rfl ?_
  refine Win.go (fun _ k => iremM X0 hx rfl (hb hby at_58) rfl (by decide) k) ?_
  show Win p.tables e below _ (s₁.setTop (mkF m 59 #[.val (.long q0), .second, .val (.long q1), .second, .val (.int p4), .val (.int p5), .val (.int nu0), .val (.int nu1), .val (.int nu2), .val (.int nu3), .unset, .unset, .unset, .unset, .unset, .unset, .unset, .unset, .unset] [(.int ((p5 &&& (2147483647 : Int32)) % (5 : Int32)))]))
  refine s_istore (pc' := 61) (l' := #[.val (.long q0), .second, .val (.long q1), .second, .val (.int p4), .val (.int p5), .val (.int nu0), .val (.int nu1), .val (.int nu2), .val (.int nu3), .val (.int ((p5 &&& (2147483647 : Int32)) % (5 : Int32))), .unset, .unset, .unset, .unset, .unset, .unset, .unset, .unset]) X0.here hx (hb hby at_59) rfl rfl ?_
  generalize hcc : ((p5 &&& (2147483647 : Int32)) % (5 : Int32)) = cc
  show Win p.tables e below _ (s₁.setTop (mkF m 61 #[.val (.long q0), .second, .val (.long q1), .second, .val (.int p4), .val (.int p5), .val (.int nu0), .val (.int nu1), .val (.int nu2), .val (.int nu3), .val (.int cc), .unset, .unset, .unset, .unset, .unset, .unset, .unset, .unset] []))
  have bcc : 0 ≤ cc.toInt ∧ cc.toInt ≤ 4 := by
    have h1 := c_and p5 2147483647 (by decide)
    have h2 := (c_irem (p5 &&& (2147483647 : Int32)) 5 5 rfl).1 h1.1
    rw [hcc] at h2
    omega
  have J77 : ∀ (TJ77 : State) (LJ77 : List Loc), Stand p l e room_1 s m #[(.long q0), (.long q1), (.int p4), (.int p5)] below meth c TJ77 LJ77 0 0 → TJ77.heap = h0 → Fr n0 LJ77 → ∀ c1 : Int32, (0 ≤ c1.toInt ∧ c1.toInt ≤ 4 ∧ (128 ≤ nu3.toInt → c1.toInt ≤ 3)) → Win p.tables e below (PostQ s (Q0 Z q0 q1 p4 p5 h0 n0) room_1.cells room_1.slots) (TJ77.setTop (mkF m 77 #[.val (.long q0), .second, .val (.long q1), .second, .val (.int p4), .val (.int p5), .val (.int nu0), .val (.int nu1), .val (.int nu2), .val (.int nu3), .val (.int c1), .unset, .unset, .unset, .unset, .unset, .unset, .unset, .unset] [])) := by
    intro TJ77 LJ77 XJ77 eJ77 Nf c1 hJ77
    have J93 : ∀ (TJ93 : State) (LJ93 : List Loc), Stand p l e room_1 s m #[(.long q0), (.long q1), (.int p4), (.int p5)] below meth c TJ93 LJ93 0 0 → TJ93.heap = h0 → Fr n0 LJ93 → ∀ c2 : Int32, (0 ≤ c2.toInt ∧ c2.toInt ≤ 4 ∧ (128 ≤ nu3.toInt → c2.toInt ≤ 3) ∧ (128 ≤ nu2.toInt → c2.toInt ≤ 2)) → Win p.tables e below (PostQ s (Q0 Z q0 q1 p4 p5 h0 n0) room_1.cells room_1.slots) (TJ93.setTop (mkF m 93 #[.val (.long q0), .second, .val (.long q1), .second, .val (.int p4), .val (.int p5), .val (.int nu0), .val (.int nu1), .val (.int nu2), .val (.int nu3), .val (.int c2), .unset, .unset, .unset, .unset, .unset, .unset, .unset, .unset] [])) := by
      intro TJ93 LJ93 XJ93 eJ93 Nf c2 hJ93
      have J109 : ∀ (TJ109 : State) (LJ109 : List Loc), Stand p l e room_1 s m #[(.long q0), (.long q1), (.int p4), (.int p5)] below meth c TJ109 LJ109 0 0 → TJ109.heap = h0 → Fr n0 LJ109 → ∀ c3 : Int32, (0 ≤ c3.toInt ∧ c3.toInt ≤ 4 ∧ (128 ≤ nu3.toInt → c3.toInt ≤ 3) ∧ (128 ≤ nu2.toInt → c3.toInt ≤ 2) ∧ (128 ≤ nu1.toInt → c3.toInt ≤ 1)) → Win p.tables e below (PostQ s (Q0 Z q0 q1 p4 p5 h0 n0) room_1.cells room_1.slots) (TJ109.setTop (mkF m 109 #[.val (.long q0), .second, .val (.long q1), .second, .val (.int p4), .val (.int p5), .val (.int nu0), .val (.int nu1), .val (.int nu2), .val (.int nu3), .val (.int c3), .unset, .unset, .unset, .unset, .unset, .unset, .unset, .unset] [])) := by
        intro TJ109 LJ109 XJ109 eJ109 Nf c3 hJ109
        rcases (own_five hJ109.1 hJ109.2.1 : c3 = (0 : Int32) ∨ c3 = (1 : Int32) ∨ c3 = (2 : Int32) ∨ c3 = (3 : Int32) ∨ c3 = (4 : Int32)) with rfl | rfl | rfl | rfl | rfl
        · skip
          show Win p.tables e below _ (TJ109.setTop (mkF m 109 #[.val (.long q0), .second, .val (.long q1), .second, .val (.int p4), .val (.int p5), .val (.int nu0), .val (.int nu1), .val (.int nu2), .val (.int nu3), .val (.int (0 : Int32)), .unset, .unset, .unset, .unset, .unset, .unset, .unset, .unset] []))
          have hcl : ((0 : Int32)).toInt = 0 := rfl
          rw [hcl] at hJ109
          refine s_iload (pc' := 111) XJ109.here hx (hb hby at_109) rfl rfl ?_
          refine s_iload (pc' := 113) XJ109.here hx (hb hby at_111) rfl rfl ?_
          refine s_iload (pc' := 115) XJ109.here hx (hb hby at_113) rfl rfl ?_
          refine s_iload (pc' := 117) XJ109.here hx (hb hby at_115) rfl rfl ?_
          refine s_iload (pc' := 119) XJ109.here hx (hb hby at_117) rfl rfl ?_
          obtain ⟨_, _, ⟨T_251, L_251, k_251, n_251⟩, -, X_251, ⟨Lc_251, hQ_251, l_251, y_251, z_251⟩, st_251⟩ := Jvm.LawKit.callS XJ109 hx (y := (⟨"com/example/faithful_deputy/faithfuldeputy/BitsKeepOnlyPinLaw", "list", "(IIIII)[I"⟩ : MethodName)) hown (mvT hZ (hw _ (List.mem_of_getElem? (i := 1) rfl))) (mvT hZ (hw _ (List.mem_of_getElem? (i := 2) rfl))) (mvT hZ (hw _ (List.mem_of_getElem? (i := 3) rfl))) (mvT hZ (hw _ (List.mem_of_getElem? (i := 4) rfl))) (by decide) (backOf (W := 0) (rm1_0 l Z a0 hw [] nu0 nu1 nu2 nu3 h0 n0 Zs ) hZ (hw _ (List.mem_of_getElem? (i := 4) rfl)) (hw _ (List.mem_of_getElem? (i := 3) rfl)) (by decide) (by decide)) (g := (mkF m 119 #[.val (.long q0), .second, .val (.long q1), .second, .val (.int p4), .val (.int p5), .val (.int nu0), .val (.int nu1), .val (.int nu2), .val (.int nu3), .val (.int (0 : Int32)), .unset, .unset, .unset, .unset, .unset, .unset, .unset, .unset] [(.int nu3), (.int nu2), (.int nu1), (.int nu0), (.int (0 : Int32))])) rfl (by rw [hml]; rfl) (argsL := [(.int (0 : Int32)), (.int nu0), (.int nu1), (.int nu2), (.int nu3)]) (rest := []) (lenOf pd_0 rfl) rfl (by show 2 * 0 + _ ≤ _; exact Nat.le_of_eq rfl) (hb hby at_119) (fun _ _ => ⟨rfl, eJ109, (by decide : 0 + 1 ≤ _), (by decide : 0 + 0 ≤ _)⟩)
          dsimp only [Pt.U, Pt.locs, Pt.cells, Pt.slots] at X_251 l_251 y_251 z_251 st_251 hQ_251
          subst l_251 y_251 z_251
          obtain ⟨h_251, e_251⟩ : ∃ z, T_251.heap = z := ⟨_, rfl⟩
          rw [e_251] at hQ_251
          obtain ⟨Nq_251, K_251, bl, kk_251, rfl, g_bl, so_251, n_251_V_bl⟩ := hQ_251
          replace Nf := Fr.app Nf Nq_251
          replace Zs := Nat.le_trans Zs K_251.1
          have V_bl := n_251_V_bl
          have lt_bl := V_bl.lt
          refine Win.go st_251 ?_
          clear st_251 Nq_251 XJ109 eJ109 K_251
          show Win p.tables e below _ (T_251.setTop (mkF m 122 #[.val (.long q0), .second, .val (.long q1), .second, .val (.int p4), .val (.int p5), .val (.int nu0), .val (.int nu1), .val (.int nu2), .val (.int nu3), .val (.int (0 : Int32)), .unset, .unset, .unset, .unset, .unset, .unset, .unset, .unset] [(.ref bl)]))
          refine s_astore (pc' := 124) (l' := #[.val (.long q0), .second, .val (.long q1), .second, .val (.int p4), .val (.int p5), .val (.int nu0), .val (.int nu1), .val (.int nu2), .val (.int nu3), .val (.int (0 : Int32)), .val (.ref bl), .unset, .unset, .unset, .unset, .unset, .unset, .unset]) X_251.here hx (hb hby at_122) rfl rfl rfl ?_
          refine s_iload (pc' := 126) X_251.here hx (hb hby at_124) rfl rfl ?_
          refine s_iconst (pc' := 127) (z := (0 : Int32)) X_251.here hx (hb hby at_126) rfl rfl ?_
          refine s_iload (pc' := 129) X_251.here hx (hb hby at_127) rfl rfl ?_
          refine s_ifYes (pc' := 136) X_251.here hx (hb hby at_129) ((if0 _ _).trans (fltI (x := (0 : Int32)) (y := (0 : Int32)) (by decide)).2.2.2) (by decide) (by decide) ?_
          refine s_iconst (pc' := 137) (z := (0 : Int32)) X_251.here hx (hb hby at_136) rfl rfl ?_
          obtain ⟨_, _, ⟨T_252, L_252, k_252, n_252⟩, -, X_252, ⟨Lc_252, hQ_252, l_252, y_252, z_252⟩, st_252⟩ := Jvm.LawKit.callS X_251 hx (y := (⟨"com/example/faithful_deputy/faithfuldeputy/BitsKeepOnlyPinLaw", "bitIn", "(IIZ)J"⟩ : MethodName)) hown (mvT hZ (hw _ (List.mem_of_getElem? (i := 6) rfl))) (mvT hZ (hw _ (List.mem_of_getElem? (i := 7) rfl))) (mvT hZ (hw _ (List.mem_of_getElem? (i := 3) rfl))) (mvT hZ (hw _ (List.mem_of_getElem? (i := 8) rfl))) (by decide) (backOf (W := 0) (rm2_0_0 l Z a0 hw [] nu0 h_251 n0 Zs ) hZ (hw _ (List.mem_of_getElem? (i := 8) rfl)) (hw _ (List.mem_of_getElem? (i := 3) rfl)) (by decide) (by decide)) (g := (mkF m 137 #[.val (.long q0), .second, .val (.long q1), .second, .val (.int p4), .val (.int p5), .val (.int nu0), .val (.int nu1), .val (.int nu2), .val (.int nu3), .val (.int (0 : Int32)), .val (.ref bl), .unset, .unset, .unset, .unset, .unset, .unset, .unset] [(.int (0 : Int32)), (.int (0 : Int32)), (.int nu0)])) rfl (by rw [hml]; rfl) (argsL := [(.int nu0), (.int (0 : Int32)), (.int (0 : Int32))]) (rest := []) (lenOf pd_1 rfl) rfl (by show 2 * 0 + _ ≤ _; exact Nat.le_of_eq rfl) (hb hby at_137) (fun _ _ => ⟨rfl, e_251, (by decide : 1 + 0 ≤ _), (by decide : 0 + 0 ≤ _)⟩)
          dsimp only [Pt.U, Pt.locs, Pt.cells, Pt.slots] at X_252 l_252 y_252 z_252 st_252 hQ_252
          subst l_252 y_252 z_252
          obtain ⟨Nq_252, e_252, rfl⟩ := hQ_252
          replace Nf := Fr.app Nf Nq_252
          refine Win.go st_252 ?_
          clear st_252 Nq_252 X_251 e_251
          show Win p.tables e below _ (T_252.setTop (mkF m 140 #[.val (.long q0), .second, .val (.long q1), .second, .val (.int p4), .val (.int p5), .val (.int nu0), .val (.int nu1), .val (.int nu2), .val (.int nu3), .val (.int (0 : Int32)), .val (.ref bl), .unset, .unset, .unset, .unset, .unset, .unset, .unset] [(.long (0 : Int64))]))
          refine s_iload (pc' := 142) X_252.here hx (hb hby at_140) rfl rfl ?_
          refine s_iconst (pc' := 143) (z := (0 : Int32)) X_252.here hx (hb hby at_142) rfl rfl ?_
          refine s_iload (pc' := 145) X_252.here hx (hb hby at_143) rfl rfl ?_
          refine s_iconst (pc' := 146) (z := (1 : Int32)) X_252.here hx (hb hby at_145) rfl rfl ?_
          refine s_icmpYes (pc' := 153) X_252.here hx (hb hby at_146) (fltI (x := (1 : Int32)) (y := (0 : Int32)) (by decide)).2.2.2 (by decide) (by decide) ?_
          refine s_iconst (pc' := 154) (z := (0 : Int32)) X_252.here hx (hb hby at_153) rfl rfl ?_
          obtain ⟨_, _, ⟨T_253, L_253, k_253, n_253⟩, -, X_253, ⟨Lc_253, hQ_253, l_253, y_253, z_253⟩, st_253⟩ := Jvm.LawKit.callS X_252 hx (y := (⟨"com/example/faithful_deputy/faithfuldeputy/BitsKeepOnlyPinLaw", "bitIn", "(IIZ)J"⟩ : MethodName)) hown (mvT hZ (hw _ (List.mem_of_getElem? (i := 6) rfl))) (mvT hZ (hw _ (List.mem_of_getElem? (i := 7) rfl))) (mvT hZ (hw _ (List.mem_of_getElem? (i := 3) rfl))) (mvT hZ (hw _ (List.mem_of_getElem? (i := 8) rfl))) (by decide) (backOf (W := 2) (rm2_0_0 l Z a0 hw [] nu1 h_251 n0 Zs ) hZ (hw _ (List.mem_of_getElem? (i := 8) rfl)) (hw _ (List.mem_of_getElem? (i := 3) rfl)) (by decide) (by decide)) (g := (mkF m 154 #[.val (.long q0), .second, .val (.long q1), .second, .val (.int p4), .val (.int p5), .val (.int nu0), .val (.int nu1), .val (.int nu2), .val (.int nu3), .val (.int (0 : Int32)), .val (.ref bl), .unset, .unset, .unset, .unset, .unset, .unset, .unset] [(.int (0 : Int32)), (.int (0 : Int32)), (.int nu1), (.long (0 : Int64))])) rfl (by rw [hml]; rfl) (argsL := [(.int nu1), (.int (0 : Int32)), (.int (0 : Int32))]) (rest := [(.long (0 : Int64))]) (lenOf pd_1 rfl) rfl (by show 2 * 0 + _ ≤ _; exact Nat.le_of_eq rfl) (hb hby at_154) (fun _ _ => ⟨rfl, e_252, (by decide : 1 + 0 ≤ _), (by decide : 0 + 0 ≤ _)⟩)
          dsimp only [Pt.U, Pt.locs, Pt.cells, Pt.slots] at X_253 l_253 y_253 z_253 st_253 hQ_253
          subst l_253 y_253 z_253
          obtain ⟨Nq_253, e_253, rfl⟩ := hQ_253
          replace Nf := Fr.app Nf Nq_253
          refine Win.go st_253 ?_
          clear st_253 Nq_253 X_252 e_252
          show Win p.tables e below _ (T_253.setTop (mkF m 157 #[.val (.long q0), .second, .val (.long q1), .second, .val (.int p4), .val (.int p5), .val (.int nu0), .val (.int nu1), .val (.int nu2), .val (.int nu3), .val (.int (0 : Int32)), .val (.ref bl), .unset, .unset, .unset, .unset, .unset, .unset, .unset] [(.long (0 : Int64)), (.long (0 : Int64))]))
          refine Win.go (fun _ k => XS.lor X_253.here hx rfl (hb hby at_157) rfl k) ?_
          show Win p.tables e below _ (T_253.setTop (mkF m 158 #[.val (.long q0), .second, .val (.long q1), .second, .val (.int p4), .val (.int p5), .val (.int nu0), .val (.int nu1), .val (.int nu2), .val (.int nu3), .val (.int (0 : Int32)), .val (.ref bl), .unset, .unset, .unset, .unset, .unset, .unset, .unset] [(.long (0 : Int64))]))
          refine s_iload (pc' := 160) X_253.here hx (hb hby at_158) rfl rfl ?_
          refine s_iconst (pc' := 161) (z := (0 : Int32)) X_253.here hx (hb hby at_160) rfl rfl ?_
          refine s_iload (pc' := 163) X_253.here hx (hb hby at_161) rfl rfl ?_
          refine s_iconst (pc' := 164) (z := (2 : Int32)) X_253.here hx (hb hby at_163) rfl rfl ?_
          refine s_icmpYes (pc' := 171) X_253.here hx (hb hby at_164) (fltI (x := (2 : Int32)) (y := (0 : Int32)) (by decide)).2.2.2 (by decide) (by decide) ?_
          refine s_iconst (pc' := 172) (z := (0 : Int32)) X_253.here hx (hb hby at_171) rfl rfl ?_
          obtain ⟨_, _, ⟨T_254, L_254, k_254, n_254⟩, -, X_254, ⟨Lc_254, hQ_254, l_254, y_254, z_254⟩, st_254⟩ := Jvm.LawKit.callS X_253 hx (y := (⟨"com/example/faithful_deputy/faithfuldeputy/BitsKeepOnlyPinLaw", "bitIn", "(IIZ)J"⟩ : MethodName)) hown (mvT hZ (hw _ (List.mem_of_getElem? (i := 6) rfl))) (mvT hZ (hw _ (List.mem_of_getElem? (i := 7) rfl))) (mvT hZ (hw _ (List.mem_of_getElem? (i := 3) rfl))) (mvT hZ (hw _ (List.mem_of_getElem? (i := 8) rfl))) (by decide) (backOf (W := 2) (rm2_0_0 l Z a0 hw [] nu2 h_251 n0 Zs ) hZ (hw _ (List.mem_of_getElem? (i := 8) rfl)) (hw _ (List.mem_of_getElem? (i := 3) rfl)) (by decide) (by decide)) (g := (mkF m 172 #[.val (.long q0), .second, .val (.long q1), .second, .val (.int p4), .val (.int p5), .val (.int nu0), .val (.int nu1), .val (.int nu2), .val (.int nu3), .val (.int (0 : Int32)), .val (.ref bl), .unset, .unset, .unset, .unset, .unset, .unset, .unset] [(.int (0 : Int32)), (.int (0 : Int32)), (.int nu2), (.long (0 : Int64))])) rfl (by rw [hml]; rfl) (argsL := [(.int nu2), (.int (0 : Int32)), (.int (0 : Int32))]) (rest := [(.long (0 : Int64))]) (lenOf pd_1 rfl) rfl (by show 2 * 0 + _ ≤ _; exact Nat.le_of_eq rfl) (hb hby at_172) (fun _ _ => ⟨rfl, e_253, (by decide : 1 + 0 ≤ _), (by decide : 0 + 0 ≤ _)⟩)
          dsimp only [Pt.U, Pt.locs, Pt.cells, Pt.slots] at X_254 l_254 y_254 z_254 st_254 hQ_254
          subst l_254 y_254 z_254
          obtain ⟨Nq_254, e_254, rfl⟩ := hQ_254
          replace Nf := Fr.app Nf Nq_254
          refine Win.go st_254 ?_
          clear st_254 Nq_254 X_253 e_253
          show Win p.tables e below _ (T_254.setTop (mkF m 175 #[.val (.long q0), .second, .val (.long q1), .second, .val (.int p4), .val (.int p5), .val (.int nu0), .val (.int nu1), .val (.int nu2), .val (.int nu3), .val (.int (0 : Int32)), .val (.ref bl), .unset, .unset, .unset, .unset, .unset, .unset, .unset] [(.long (0 : Int64)), (.long (0 : Int64))]))
          refine Win.go (fun _ k => XS.lor X_254.here hx rfl (hb hby at_175) rfl k) ?_
          show Win p.tables e below _ (T_254.setTop (mkF m 176 #[.val (.long q0), .second, .val (.long q1), .second, .val (.int p4), .val (.int p5), .val (.int nu0), .val (.int nu1), .val (.int nu2), .val (.int nu3), .val (.int (0 : Int32)), .val (.ref bl), .unset, .unset, .unset, .unset, .unset, .unset, .unset] [(.long (0 : Int64))]))
          refine s_iload (pc' := 178) X_254.here hx (hb hby at_176) rfl rfl ?_
          refine s_iconst (pc' := 179) (z := (0 : Int32)) X_254.here hx (hb hby at_178) rfl rfl ?_
          refine s_iload (pc' := 181) X_254.here hx (hb hby at_179) rfl rfl ?_
          refine s_iconst (pc' := 182) (z := (3 : Int32)) X_254.here hx (hb hby at_181) rfl rfl ?_
          refine s_icmpYes (pc' := 189) X_254.here hx (hb hby at_182) (fltI (x := (3 : Int32)) (y := (0 : Int32)) (by decide)).2.2.2 (by decide) (by decide) ?_
          refine s_iconst (pc' := 190) (z := (0 : Int32)) X_254.here hx (hb hby at_189) rfl rfl ?_
          obtain ⟨_, _, ⟨T_255, L_255, k_255, n_255⟩, -, X_255, ⟨Lc_255, hQ_255, l_255, y_255, z_255⟩, st_255⟩ := Jvm.LawKit.callS X_254 hx (y := (⟨"com/example/faithful_deputy/faithfuldeputy/BitsKeepOnlyPinLaw", "bitIn", "(IIZ)J"⟩ : MethodName)) hown (mvT hZ (hw _ (List.mem_of_getElem? (i := 6) rfl))) (mvT hZ (hw _ (List.mem_of_getElem? (i := 7) rfl))) (mvT hZ (hw _ (List.mem_of_getElem? (i := 3) rfl))) (mvT hZ (hw _ (List.mem_of_getElem? (i := 8) rfl))) (by decide) (backOf (W := 2) (rm2_0_0 l Z a0 hw [] nu3 h_251 n0 Zs ) hZ (hw _ (List.mem_of_getElem? (i := 8) rfl)) (hw _ (List.mem_of_getElem? (i := 3) rfl)) (by decide) (by decide)) (g := (mkF m 190 #[.val (.long q0), .second, .val (.long q1), .second, .val (.int p4), .val (.int p5), .val (.int nu0), .val (.int nu1), .val (.int nu2), .val (.int nu3), .val (.int (0 : Int32)), .val (.ref bl), .unset, .unset, .unset, .unset, .unset, .unset, .unset] [(.int (0 : Int32)), (.int (0 : Int32)), (.int nu3), (.long (0 : Int64))])) rfl (by rw [hml]; rfl) (argsL := [(.int nu3), (.int (0 : Int32)), (.int (0 : Int32))]) (rest := [(.long (0 : Int64))]) (lenOf pd_1 rfl) rfl (by show 2 * 0 + _ ≤ _; exact Nat.le_of_eq rfl) (hb hby at_190) (fun _ _ => ⟨rfl, e_254, (by decide : 1 + 0 ≤ _), (by decide : 0 + 0 ≤ _)⟩)
          dsimp only [Pt.U, Pt.locs, Pt.cells, Pt.slots] at X_255 l_255 y_255 z_255 st_255 hQ_255
          subst l_255 y_255 z_255
          obtain ⟨Nq_255, e_255, rfl⟩ := hQ_255
          replace Nf := Fr.app Nf Nq_255
          refine Win.go st_255 ?_
          clear st_255 Nq_255 X_254 e_254
          show Win p.tables e below _ (T_255.setTop (mkF m 193 #[.val (.long q0), .second, .val (.long q1), .second, .val (.int p4), .val (.int p5), .val (.int nu0), .val (.int nu1), .val (.int nu2), .val (.int nu3), .val (.int (0 : Int32)), .val (.ref bl), .unset, .unset, .unset, .unset, .unset, .unset, .unset] [(.long (0 : Int64)), (.long (0 : Int64))]))
          refine Win.go (fun _ k => XS.lor X_255.here hx rfl (hb hby at_193) rfl k) ?_
          show Win p.tables e below _ (T_255.setTop (mkF m 194 #[.val (.long q0), .second, .val (.long q1), .second, .val (.int p4), .val (.int p5), .val (.int nu0), .val (.int nu1), .val (.int nu2), .val (.int nu3), .val (.int (0 : Int32)), .val (.ref bl), .unset, .unset, .unset, .unset, .unset, .unset, .unset] [(.long (0 : Int64))]))
          refine s_lstore (pc' := 196) (l' := #[.val (.long q0), .second, .val (.long q1), .second, .val (.int p4), .val (.int p5), .val (.int nu0), .val (.int nu1), .val (.int nu2), .val (.int nu3), .val (.int (0 : Int32)), .val (.ref bl), .val (.long (0 : Int64)), .second, .unset, .unset, .unset, .unset, .unset]) X_255.here hx (hb hby at_194) rfl rfl ?_
          refine s_iload (pc' := 198) X_255.here hx (hb hby at_196) rfl rfl ?_
          refine s_iconst (pc' := 199) (z := (1 : Int32)) X_255.here hx (hb hby at_198) rfl rfl ?_
          refine s_iload (pc' := 201) X_255.here hx (hb hby at_199) rfl rfl ?_
          refine s_ifYes (pc' := 208) X_255.here hx (hb hby at_201) ((if0 _ _).trans (fltI (x := (0 : Int32)) (y := (0 : Int32)) (by decide)).2.2.2) (by decide) (by decide) ?_
          refine s_iconst (pc' := 209) (z := (0 : Int32)) X_255.here hx (hb hby at_208) rfl rfl ?_
          obtain ⟨_, _, ⟨T_256, L_256, k_256, n_256⟩, -, X_256, ⟨Lc_256, hQ_256, l_256, y_256, z_256⟩, st_256⟩ := Jvm.LawKit.callS X_255 hx (y := (⟨"com/example/faithful_deputy/faithfuldeputy/BitsKeepOnlyPinLaw", "bitIn", "(IIZ)J"⟩ : MethodName)) hown (mvT hZ (hw _ (List.mem_of_getElem? (i := 6) rfl))) (mvT hZ (hw _ (List.mem_of_getElem? (i := 7) rfl))) (mvT hZ (hw _ (List.mem_of_getElem? (i := 3) rfl))) (mvT hZ (hw _ (List.mem_of_getElem? (i := 8) rfl))) (by decide) (backOf (W := 0) (rm2_1_0 l Z a0 hw [] nu0 h_251 n0 Zs ) hZ (hw _ (List.mem_of_getElem? (i := 8) rfl)) (hw _ (List.mem_of_getElem? (i := 3) rfl)) (by decide) (by decide)) (g := (mkF m 209 #[.val (.long q0), .second, .val (.long q1), .second, .val (.int p4), .val (.int p5), .val (.int nu0), .val (.int nu1), .val (.int nu2), .val (.int nu3), .val (.int (0 : Int32)), .val (.ref bl), .val (.long (0 : Int64)), .second, .unset, .unset, .unset, .unset, .unset] [(.int (0 : Int32)), (.int (1 : Int32)), (.int nu0)])) rfl (by rw [hml]; rfl) (argsL := [(.int nu0), (.int (1 : Int32)), (.int (0 : Int32))]) (rest := []) (lenOf pd_1 rfl) rfl (by show 2 * 0 + _ ≤ _; exact Nat.le_of_eq rfl) (hb hby at_209) (fun _ _ => ⟨rfl, e_255, (by decide : 1 + 0 ≤ _), (by decide : 0 + 0 ≤ _)⟩)
          dsimp only [Pt.U, Pt.locs, Pt.cells, Pt.slots] at X_256 l_256 y_256 z_256 st_256 hQ_256
          subst l_256 y_256 z_256
          obtain ⟨Nq_256, e_256, rfl⟩ := hQ_256
          replace Nf := Fr.app Nf Nq_256
          refine Win.go st_256 ?_
          clear st_256 Nq_256 X_255 e_255
          show Win p.tables e below _ (T_256.setTop (mkF m 212 #[.val (.long q0), .second, .val (.long q1), .second, .val (.int p4), .val (.int p5), .val (.int nu0), .val (.int nu1), .val (.int nu2), .val (.int nu3), .val (.int (0 : Int32)), .val (.ref bl), .val (.long (0 : Int64)), .second, .unset, .unset, .unset, .unset, .unset] [(.long (0 : Int64))]))
          refine s_iload (pc' := 214) X_256.here hx (hb hby at_212) rfl rfl ?_
          refine s_iconst (pc' := 215) (z := (1 : Int32)) X_256.here hx (hb hby at_214) rfl rfl ?_
          refine s_iload (pc' := 217) X_256.here hx (hb hby at_215) rfl rfl ?_
          refine s_iconst (pc' := 218) (z := (1 : Int32)) X_256.here hx (hb hby at_217) rfl rfl ?_
          refine s_icmpYes (pc' := 225) X_256.here hx (hb hby at_218) (fltI (x := (1 : Int32)) (y := (0 : Int32)) (by decide)).2.2.2 (by decide) (by decide) ?_
          refine s_iconst (pc' := 226) (z := (0 : Int32)) X_256.here hx (hb hby at_225) rfl rfl ?_
          obtain ⟨_, _, ⟨T_257, L_257, k_257, n_257⟩, -, X_257, ⟨Lc_257, hQ_257, l_257, y_257, z_257⟩, st_257⟩ := Jvm.LawKit.callS X_256 hx (y := (⟨"com/example/faithful_deputy/faithfuldeputy/BitsKeepOnlyPinLaw", "bitIn", "(IIZ)J"⟩ : MethodName)) hown (mvT hZ (hw _ (List.mem_of_getElem? (i := 6) rfl))) (mvT hZ (hw _ (List.mem_of_getElem? (i := 7) rfl))) (mvT hZ (hw _ (List.mem_of_getElem? (i := 3) rfl))) (mvT hZ (hw _ (List.mem_of_getElem? (i := 8) rfl))) (by decide) (backOf (W := 2) (rm2_1_0 l Z a0 hw [] nu1 h_251 n0 Zs ) hZ (hw _ (List.mem_of_getElem? (i := 8) rfl)) (hw _ (List.mem_of_getElem? (i := 3) rfl)) (by decide) (by decide)) (g := (mkF m 226 #[.val (.long q0), .second, .val (.long q1), .second, .val (.int p4), .val (.int p5), .val (.int nu0), .val (.int nu1), .val (.int nu2), .val (.int nu3), .val (.int (0 : Int32)), .val (.ref bl), .val (.long (0 : Int64)), .second, .unset, .unset, .unset, .unset, .unset] [(.int (0 : Int32)), (.int (1 : Int32)), (.int nu1), (.long (0 : Int64))])) rfl (by rw [hml]; rfl) (argsL := [(.int nu1), (.int (1 : Int32)), (.int (0 : Int32))]) (rest := [(.long (0 : Int64))]) (lenOf pd_1 rfl) rfl (by show 2 * 0 + _ ≤ _; exact Nat.le_of_eq rfl) (hb hby at_226) (fun _ _ => ⟨rfl, e_256, (by decide : 1 + 0 ≤ _), (by decide : 0 + 0 ≤ _)⟩)
          dsimp only [Pt.U, Pt.locs, Pt.cells, Pt.slots] at X_257 l_257 y_257 z_257 st_257 hQ_257
          subst l_257 y_257 z_257
          obtain ⟨Nq_257, e_257, rfl⟩ := hQ_257
          replace Nf := Fr.app Nf Nq_257
          refine Win.go st_257 ?_
          clear st_257 Nq_257 X_256 e_256
          show Win p.tables e below _ (T_257.setTop (mkF m 229 #[.val (.long q0), .second, .val (.long q1), .second, .val (.int p4), .val (.int p5), .val (.int nu0), .val (.int nu1), .val (.int nu2), .val (.int nu3), .val (.int (0 : Int32)), .val (.ref bl), .val (.long (0 : Int64)), .second, .unset, .unset, .unset, .unset, .unset] [(.long (0 : Int64)), (.long (0 : Int64))]))
          refine Win.go (fun _ k => XS.lor X_257.here hx rfl (hb hby at_229) rfl k) ?_
          show Win p.tables e below _ (T_257.setTop (mkF m 230 #[.val (.long q0), .second, .val (.long q1), .second, .val (.int p4), .val (.int p5), .val (.int nu0), .val (.int nu1), .val (.int nu2), .val (.int nu3), .val (.int (0 : Int32)), .val (.ref bl), .val (.long (0 : Int64)), .second, .unset, .unset, .unset, .unset, .unset] [(.long (0 : Int64))]))
          refine s_iload (pc' := 232) X_257.here hx (hb hby at_230) rfl rfl ?_
          refine s_iconst (pc' := 233) (z := (1 : Int32)) X_257.here hx (hb hby at_232) rfl rfl ?_
          refine s_iload (pc' := 235) X_257.here hx (hb hby at_233) rfl rfl ?_
          refine s_iconst (pc' := 236) (z := (2 : Int32)) X_257.here hx (hb hby at_235) rfl rfl ?_
          refine s_icmpYes (pc' := 243) X_257.here hx (hb hby at_236) (fltI (x := (2 : Int32)) (y := (0 : Int32)) (by decide)).2.2.2 (by decide) (by decide) ?_
          refine s_iconst (pc' := 244) (z := (0 : Int32)) X_257.here hx (hb hby at_243) rfl rfl ?_
          obtain ⟨_, _, ⟨T_258, L_258, k_258, n_258⟩, -, X_258, ⟨Lc_258, hQ_258, l_258, y_258, z_258⟩, st_258⟩ := Jvm.LawKit.callS X_257 hx (y := (⟨"com/example/faithful_deputy/faithfuldeputy/BitsKeepOnlyPinLaw", "bitIn", "(IIZ)J"⟩ : MethodName)) hown (mvT hZ (hw _ (List.mem_of_getElem? (i := 6) rfl))) (mvT hZ (hw _ (List.mem_of_getElem? (i := 7) rfl))) (mvT hZ (hw _ (List.mem_of_getElem? (i := 3) rfl))) (mvT hZ (hw _ (List.mem_of_getElem? (i := 8) rfl))) (by decide) (backOf (W := 2) (rm2_1_0 l Z a0 hw [] nu2 h_251 n0 Zs ) hZ (hw _ (List.mem_of_getElem? (i := 8) rfl)) (hw _ (List.mem_of_getElem? (i := 3) rfl)) (by decide) (by decide)) (g := (mkF m 244 #[.val (.long q0), .second, .val (.long q1), .second, .val (.int p4), .val (.int p5), .val (.int nu0), .val (.int nu1), .val (.int nu2), .val (.int nu3), .val (.int (0 : Int32)), .val (.ref bl), .val (.long (0 : Int64)), .second, .unset, .unset, .unset, .unset, .unset] [(.int (0 : Int32)), (.int (1 : Int32)), (.int nu2), (.long (0 : Int64))])) rfl (by rw [hml]; rfl) (argsL := [(.int nu2), (.int (1 : Int32)), (.int (0 : Int32))]) (rest := [(.long (0 : Int64))]) (lenOf pd_1 rfl) rfl (by show 2 * 0 + _ ≤ _; exact Nat.le_of_eq rfl) (hb hby at_244) (fun _ _ => ⟨rfl, e_257, (by decide : 1 + 0 ≤ _), (by decide : 0 + 0 ≤ _)⟩)
          dsimp only [Pt.U, Pt.locs, Pt.cells, Pt.slots] at X_258 l_258 y_258 z_258 st_258 hQ_258
          subst l_258 y_258 z_258
          obtain ⟨Nq_258, e_258, rfl⟩ := hQ_258
          replace Nf := Fr.app Nf Nq_258
          refine Win.go st_258 ?_
          clear st_258 Nq_258 X_257 e_257
          show Win p.tables e below _ (T_258.setTop (mkF m 247 #[.val (.long q0), .second, .val (.long q1), .second, .val (.int p4), .val (.int p5), .val (.int nu0), .val (.int nu1), .val (.int nu2), .val (.int nu3), .val (.int (0 : Int32)), .val (.ref bl), .val (.long (0 : Int64)), .second, .unset, .unset, .unset, .unset, .unset] [(.long (0 : Int64)), (.long (0 : Int64))]))
          refine Win.go (fun _ k => XS.lor X_258.here hx rfl (hb hby at_247) rfl k) ?_
          show Win p.tables e below _ (T_258.setTop (mkF m 248 #[.val (.long q0), .second, .val (.long q1), .second, .val (.int p4), .val (.int p5), .val (.int nu0), .val (.int nu1), .val (.int nu2), .val (.int nu3), .val (.int (0 : Int32)), .val (.ref bl), .val (.long (0 : Int64)), .second, .unset, .unset, .unset, .unset, .unset] [(.long (0 : Int64))]))
          refine s_iload (pc' := 250) X_258.here hx (hb hby at_248) rfl rfl ?_
          refine s_iconst (pc' := 251) (z := (1 : Int32)) X_258.here hx (hb hby at_250) rfl rfl ?_
          refine s_iload (pc' := 253) X_258.here hx (hb hby at_251) rfl rfl ?_
          refine s_iconst (pc' := 254) (z := (3 : Int32)) X_258.here hx (hb hby at_253) rfl rfl ?_
          refine s_icmpYes (pc' := 261) X_258.here hx (hb hby at_254) (fltI (x := (3 : Int32)) (y := (0 : Int32)) (by decide)).2.2.2 (by decide) (by decide) ?_
          refine s_iconst (pc' := 262) (z := (0 : Int32)) X_258.here hx (hb hby at_261) rfl rfl ?_
          obtain ⟨_, _, ⟨T_259, L_259, k_259, n_259⟩, -, X_259, ⟨Lc_259, hQ_259, l_259, y_259, z_259⟩, st_259⟩ := Jvm.LawKit.callS X_258 hx (y := (⟨"com/example/faithful_deputy/faithfuldeputy/BitsKeepOnlyPinLaw", "bitIn", "(IIZ)J"⟩ : MethodName)) hown (mvT hZ (hw _ (List.mem_of_getElem? (i := 6) rfl))) (mvT hZ (hw _ (List.mem_of_getElem? (i := 7) rfl))) (mvT hZ (hw _ (List.mem_of_getElem? (i := 3) rfl))) (mvT hZ (hw _ (List.mem_of_getElem? (i := 8) rfl))) (by decide) (backOf (W := 2) (rm2_1_0 l Z a0 hw [] nu3 h_251 n0 Zs ) hZ (hw _ (List.mem_of_getElem? (i := 8) rfl)) (hw _ (List.mem_of_getElem? (i := 3) rfl)) (by decide) (by decide)) (g := (mkF m 262 #[.val (.long q0), .second, .val (.long q1), .second, .val (.int p4), .val (.int p5), .val (.int nu0), .val (.int nu1), .val (.int nu2), .val (.int nu3), .val (.int (0 : Int32)), .val (.ref bl), .val (.long (0 : Int64)), .second, .unset, .unset, .unset, .unset, .unset] [(.int (0 : Int32)), (.int (1 : Int32)), (.int nu3), (.long (0 : Int64))])) rfl (by rw [hml]; rfl) (argsL := [(.int nu3), (.int (1 : Int32)), (.int (0 : Int32))]) (rest := [(.long (0 : Int64))]) (lenOf pd_1 rfl) rfl (by show 2 * 0 + _ ≤ _; exact Nat.le_of_eq rfl) (hb hby at_262) (fun _ _ => ⟨rfl, e_258, (by decide : 1 + 0 ≤ _), (by decide : 0 + 0 ≤ _)⟩)
          dsimp only [Pt.U, Pt.locs, Pt.cells, Pt.slots] at X_259 l_259 y_259 z_259 st_259 hQ_259
          subst l_259 y_259 z_259
          obtain ⟨Nq_259, e_259, rfl⟩ := hQ_259
          replace Nf := Fr.app Nf Nq_259
          refine Win.go st_259 ?_
          clear st_259 Nq_259 X_258 e_258
          show Win p.tables e below _ (T_259.setTop (mkF m 265 #[.val (.long q0), .second, .val (.long q1), .second, .val (.int p4), .val (.int p5), .val (.int nu0), .val (.int nu1), .val (.int nu2), .val (.int nu3), .val (.int (0 : Int32)), .val (.ref bl), .val (.long (0 : Int64)), .second, .unset, .unset, .unset, .unset, .unset] [(.long (0 : Int64)), (.long (0 : Int64))]))
          refine Win.go (fun _ k => XS.lor X_259.here hx rfl (hb hby at_265) rfl k) ?_
          show Win p.tables e below _ (T_259.setTop (mkF m 266 #[.val (.long q0), .second, .val (.long q1), .second, .val (.int p4), .val (.int p5), .val (.int nu0), .val (.int nu1), .val (.int nu2), .val (.int nu3), .val (.int (0 : Int32)), .val (.ref bl), .val (.long (0 : Int64)), .second, .unset, .unset, .unset, .unset, .unset] [(.long (0 : Int64))]))
          refine s_lstore (pc' := 268) (l' := #[.val (.long q0), .second, .val (.long q1), .second, .val (.int p4), .val (.int p5), .val (.int nu0), .val (.int nu1), .val (.int nu2), .val (.int nu3), .val (.int (0 : Int32)), .val (.ref bl), .val (.long (0 : Int64)), .second, .val (.long (0 : Int64)), .second, .unset, .unset, .unset]) X_259.here hx (hb hby at_266) rfl rfl ?_
          refine s_iconst (pc' := 269) (z := (2 : Int32)) X_259.here hx (hb hby at_268) rfl rfl ?_
          obtain ⟨T_260, h_260, k_260, X_260, e_260, Ex_260, A_260, EA_260, st_260⟩ := newPE X_259 hx hZ (hw _ (List.mem_of_getElem? (i := 9) rfl)) e_259 (g := (mkF m 269 #[.val (.long q0), .second, .val (.long q1), .second, .val (.int p4), .val (.int p5), .val (.int nu0), .val (.int nu1), .val (.int nu2), .val (.int nu3), .val (.int (0 : Int32)), .val (.ref bl), .val (.long (0 : Int64)), .second, .val (.long (0 : Int64)), .second, .unset, .unset, .unset] [(.int (2 : Int32))])) rfl (hb hby at_269) rfl (by decide) (cap := 2) (by decide) (by decide) (by decide) (by decide) (ad := "[J") (by decide)
          obtain ⟨b_260, g_260⟩ : ∃ z, z = h_251.size := ⟨_, rfl⟩
          have ne_bl_b_260 : bl ≠ b_260 := Nat.ne_of_lt (Nat.lt_of_lt_of_le lt_bl (Nat.le_of_eq g_260.symm))
          have g_b_260 : n0 ≤ b_260 := Nat.le_trans Zs (Nat.le_of_eq g_260.symm)
          rw [← g_260] at A_260 EA_260 st_260
          replace V_bl := V_bl.ext Ex_260
          replace lt_bl := Nat.lt_of_lt_of_le lt_bl Ex_260.1
          replace Zs := Nat.le_trans Zs Ex_260.1
          have V_b_260 : Arv Z h_260 b_260 k_260 .long (2 : Int32) [(.long (0 : Int64)), (.long (0 : Int64))] (.long (0 : Int64)) := (Arv.new A_260 (by decide)).pad (pad_rep [] (.long (0 : Int64)) 2)
          have lt_b_260 := V_b_260.lt
          have E_b_260 := EA_260
          refine Win.go st_260 ?_
          clear st_260 Ex_260 A_260 EA_260 g_260 X_259 e_259
          show Win p.tables e below _ (T_260.setTop (mkF m 271 #[.val (.long q0), .second, .val (.long q1), .second, .val (.int p4), .val (.int p5), .val (.int nu0), .val (.int nu1), .val (.int nu2), .val (.int nu3), .val (.int (0 : Int32)), .val (.ref bl), .val (.long (0 : Int64)), .second, .val (.long (0 : Int64)), .second, .unset, .unset, .unset] [(.ref b_260)]))
          refine s_dup (pc' := 272) X_260.here hx (hb hby at_271) rfl rfl ?_
          refine s_iconst (pc' := 273) (z := (0 : Int32)) X_260.here hx (hb hby at_272) rfl rfl ?_
          refine s_lloadN (pc' := 274) X_260.here hx (hb hby at_273) rfl rfl ?_
          obtain ⟨cl_261, Ar_261, q_261, S_261, N_261, H_261, G_261⟩ := V_b_260
          obtain ⟨T_261, h_261, X_261, e_261, W_261, st_261⟩ := stJ X_260 hx hZ e_260 Ar_261 (j := (0 : Int32)) (inb_of S_261 ⟨by decide, by decide⟩) (g := (mkF m 274 #[.val (.long q0), .second, .val (.long q1), .second, .val (.int p4), .val (.int p5), .val (.int nu0), .val (.int nu1), .val (.int nu2), .val (.int nu3), .val (.int (0 : Int32)), .val (.ref bl), .val (.long (0 : Int64)), .second, .val (.long (0 : Int64)), .second, .unset, .unset, .unset] [(.long q0), (.int (0 : Int32)), (.ref b_260), (.ref b_260)])) rfl rfl (hb hby at_274)
          have V_261 := Arv.set Ar_261 q_261 S_261 N_261 H_261 G_261 rfl W_261 0 rfl (Nat.le_of_ble_eq_true rfl)
          replace V_bl := V_bl.other W_261 ne_bl_b_260
          replace E_b_260 := E_b_260.wr W_261
          replace lt_bl := Nat.lt_of_lt_of_le lt_bl (Keep.of_wr W_261).1
          replace lt_b_260 := Nat.lt_of_lt_of_le lt_b_260 (Keep.of_wr W_261).1
          replace Zs := Nat.le_trans Zs (Keep.of_wr W_261).1
          replace V_b_260 : Arv Z h_261 b_260 k_260 .long (2 : Int32) [(.long q0), (.long (0 : Int64))] (.long (0 : Int64)) := V_261
          replace Nf := Fr.snoc X_261 Nf g_b_260
          refine Win.go st_261 ?_
          clear st_261 W_261 V_261 Ar_261 q_261 S_261 N_261 H_261 G_261 X_260 e_260
          show Win p.tables e below _ (T_261.setTop (mkF m 275 #[.val (.long q0), .second, .val (.long q1), .second, .val (.int p4), .val (.int p5), .val (.int nu0), .val (.int nu1), .val (.int nu2), .val (.int nu3), .val (.int (0 : Int32)), .val (.ref bl), .val (.long (0 : Int64)), .second, .val (.long (0 : Int64)), .second, .unset, .unset, .unset] [(.ref b_260)]))
          refine s_dup (pc' := 276) X_261.here hx (hb hby at_275) rfl rfl ?_
          refine s_iconst (pc' := 277) (z := (1 : Int32)) X_261.here hx (hb hby at_276) rfl rfl ?_
          refine s_lloadN (pc' := 278) X_261.here hx (hb hby at_277) rfl rfl ?_
          obtain ⟨cl_262, Ar_262, q_262, S_262, N_262, H_262, G_262⟩ := V_b_260
          obtain ⟨T_262, h_262, X_262, e_262, W_262, st_262⟩ := stJ X_261 hx hZ e_261 Ar_262 (j := (1 : Int32)) (inb_of S_262 ⟨by decide, by decide⟩) (g := (mkF m 278 #[.val (.long q0), .second, .val (.long q1), .second, .val (.int p4), .val (.int p5), .val (.int nu0), .val (.int nu1), .val (.int nu2), .val (.int nu3), .val (.int (0 : Int32)), .val (.ref bl), .val (.long (0 : Int64)), .second, .val (.long (0 : Int64)), .second, .unset, .unset, .unset] [(.long q1), (.int (1 : Int32)), (.ref b_260), (.ref b_260)])) rfl rfl (hb hby at_278)
          have V_262 := Arv.set Ar_262 q_262 S_262 N_262 H_262 G_262 rfl W_262 1 rfl (Nat.le_of_ble_eq_true rfl)
          replace V_bl := V_bl.other W_262 ne_bl_b_260
          replace E_b_260 := E_b_260.wr W_262
          replace lt_bl := Nat.lt_of_lt_of_le lt_bl (Keep.of_wr W_262).1
          replace lt_b_260 := Nat.lt_of_lt_of_le lt_b_260 (Keep.of_wr W_262).1
          replace Zs := Nat.le_trans Zs (Keep.of_wr W_262).1
          replace V_b_260 : Arv Z h_262 b_260 k_260 .long (2 : Int32) [(.long q0), (.long q1)] (.long (0 : Int64)) := V_262
          replace Nf := Fr.snoc X_262 Nf g_b_260
          refine Win.go st_262 ?_
          clear st_262 W_262 V_262 Ar_262 q_262 S_262 N_262 H_262 G_262 X_261 e_261
          show Win p.tables e below _ (T_262.setTop (mkF m 279 #[.val (.long q0), .second, .val (.long q1), .second, .val (.int p4), .val (.int p5), .val (.int nu0), .val (.int nu1), .val (.int nu2), .val (.int nu3), .val (.int (0 : Int32)), .val (.ref bl), .val (.long (0 : Int64)), .second, .val (.long (0 : Int64)), .second, .unset, .unset, .unset] [(.ref b_260)]))
          refine s_astore (pc' := 281) (l' := #[.val (.long q0), .second, .val (.long q1), .second, .val (.int p4), .val (.int p5), .val (.int nu0), .val (.int nu1), .val (.int nu2), .val (.int nu3), .val (.int (0 : Int32)), .val (.ref bl), .val (.long (0 : Int64)), .second, .val (.long (0 : Int64)), .second, .val (.ref b_260), .unset, .unset]) X_262.here hx (hb hby at_279) rfl rfl rfl ?_
          refine s_aload (pc' := 283) X_262.here hx (hb hby at_281) rfl rfl rfl ?_
          refine s_aload (pc' := 285) X_262.here hx (hb hby at_283) rfl rfl rfl ?_
          obtain ⟨_, _, ⟨T_263, L_263, k_263, n_263⟩, -, X_263, ⟨Lc_263, hQ_263, l_263, y_263, z_263⟩, st_263⟩ := Jvm.LawKit.callS X_262 hx (y := (⟨"com/example/faithful_deputy/faithfuldeputy/Bits", "keepOnly", "([J[I)Z"⟩ : MethodName)) hown (mvT hZ (hw _ (List.mem_of_getElem? (i := 10) rfl))) (mvT hZ (hw _ (List.mem_of_getElem? (i := 11) rfl))) (mvT hZ (hw _ (List.mem_of_getElem? (i := 12) rfl))) (mvT hZ (hw _ (List.mem_of_getElem? (i := 13) rfl))) (by decide) (backOf (W := 0) (rm3_0 l Z a0 hw [] b_260 bl k_260 q0 q1 kk_251 h_262 n0 Zs V_b_260 V_bl g_b_260 ne_bl_b_260 trivial) hZ (hw _ (List.mem_of_getElem? (i := 13) rfl)) (hw _ (List.mem_of_getElem? (i := 12) rfl)) (by decide) (by decide)) (g := (mkF m 285 #[.val (.long q0), .second, .val (.long q1), .second, .val (.int p4), .val (.int p5), .val (.int nu0), .val (.int nu1), .val (.int nu2), .val (.int nu3), .val (.int (0 : Int32)), .val (.ref bl), .val (.long (0 : Int64)), .second, .val (.long (0 : Int64)), .second, .val (.ref b_260), .unset, .unset] [(.ref bl), (.ref b_260)])) rfl (by rw [hml]; rfl) (argsL := [(.ref b_260), (.ref bl)]) (rest := []) (lenOf pd_2 rfl) rfl (by show 2 * 0 + _ ≤ _; exact Nat.le_of_eq rfl) (hb hby at_285) (fun _ _ => ⟨rfl, e_262, (by decide : 2 + 0 ≤ _), (by decide : 2 + 0 ≤ _)⟩)
          dsimp only [Pt.U, Pt.locs, Pt.cells, Pt.slots] at X_263 l_263 y_263 z_263 st_263 hQ_263
          subst l_263 y_263 z_263
          obtain ⟨h_263, e_263⟩ : ∃ z, T_263.heap = z := ⟨_, rfl⟩
          rw [e_263] at hQ_263
          obtain ⟨Nq_263, K_263, n_263_V_b_260, r, rfl, hr⟩ := hQ_263
          replace Nf := Fr.app Nf Nq_263
          replace V_bl := V_bl.keep K_263 (ninS ne_bl_b_260 nin0)
          clear V_b_260
          replace E_b_260 := E_b_260.keep K_263
          replace lt_bl := Nat.lt_of_lt_of_le lt_bl K_263.1
          replace lt_b_260 := Nat.lt_of_lt_of_le lt_b_260 K_263.1
          replace Zs := Nat.le_trans Zs K_263.1
          have V_b_260 := n_263_V_b_260
          refine Win.go st_263 ?_
          clear st_263 Nq_263 X_262 e_262 K_263
          show Win p.tables e below _ (T_263.setTop (mkF m 288 #[.val (.long q0), .second, .val (.long q1), .second, .val (.int p4), .val (.int p5), .val (.int nu0), .val (.int nu1), .val (.int nu2), .val (.int nu3), .val (.int (0 : Int32)), .val (.ref bl), .val (.long (0 : Int64)), .second, .val (.long (0 : Int64)), .second, .val (.ref b_260), .unset, .unset] [(.int r)]))
          refine s_istore (pc' := 290) (l' := #[.val (.long q0), .second, .val (.long q1), .second, .val (.int p4), .val (.int p5), .val (.int nu0), .val (.int nu1), .val (.int nu2), .val (.int nu3), .val (.int (0 : Int32)), .val (.ref bl), .val (.long (0 : Int64)), .second, .val (.long (0 : Int64)), .second, .val (.ref b_260), .val (.int r), .unset]) X_263.here hx (hb hby at_288) rfl rfl ?_
          have em : ((((0 : Int64) ||| (0 : Int64)) ||| (0 : Int64)) ||| (0 : Int64)) = (0 : Int64) := by decide
          rw [em] at V_b_260 hr
          rw [Int64.zero_or, show ((0 : Int64) ^^^ (-1 : Int64)) = -1 from by decide] at hr
          refine s_lloadN (pc' := 291) X_263.here hx (hb hby at_290) rfl rfl ?_
          refine s_lload (pc' := 293) X_263.here hx (hb hby at_291) rfl rfl ?_
          refine Win.go (fun _ k => X_263.ldc2Long hx hown (mvT hZ (hw _ (List.mem_of_getElem? (i := 15) rfl))) (g := (mkF m 293 #[.val (.long q0), .second, .val (.long q1), .second, .val (.int p4), .val (.int p5), .val (.int nu0), .val (.int nu1), .val (.int nu2), .val (.int nu3), .val (.int (0 : Int32)), .val (.ref bl), .val (.long (0 : Int64)), .second, .val (.long (0 : Int64)), .second, .val (.ref b_260), .val (.int r), .unset] [(.long (0 : Int64)), (.long q0)])) rfl (hb hby at_293) _ k) ?_
          show Win p.tables e below _ (T_263.setTop (mkF m 296 #[.val (.long q0), .second, .val (.long q1), .second, .val (.int p4), .val (.int p5), .val (.int nu0), .val (.int nu1), .val (.int nu2), .val (.int nu3), .val (.int (0 : Int32)), .val (.ref bl), .val (.long (0 : Int64)), .second, .val (.long (0 : Int64)), .second, .val (.ref b_260), .val (.int r), .unset] [(.long (-1 : Int64)), (.long (0 : Int64)), (.long q0)]))
          refine Win.go (fun _ k => XS.lxor X_263.here hx rfl (hb hby at_296) rfl k) ?_
          show Win p.tables e below _ (T_263.setTop (mkF m 297 #[.val (.long q0), .second, .val (.long q1), .second, .val (.int p4), .val (.int p5), .val (.int nu0), .val (.int nu1), .val (.int nu2), .val (.int nu3), .val (.int (0 : Int32)), .val (.ref bl), .val (.long (0 : Int64)), .second, .val (.long (0 : Int64)), .second, .val (.ref b_260), .val (.int r), .unset] [(.long (-1 : Int64)), (.long q0)]))
          refine s_land (pc' := 298) X_263.here hx (hb hby at_297) rfl ?_
          refine s_lloadN (pc' := 299) X_263.here hx (hb hby at_298) rfl rfl ?_
          refine s_lload (pc' := 301) X_263.here hx (hb hby at_299) rfl rfl ?_
          refine Win.go (fun _ k => X_263.ldc2Long hx hown (mvT hZ (hw _ (List.mem_of_getElem? (i := 15) rfl))) (g := (mkF m 301 #[.val (.long q0), .second, .val (.long q1), .second, .val (.int p4), .val (.int p5), .val (.int nu0), .val (.int nu1), .val (.int nu2), .val (.int nu3), .val (.int (0 : Int32)), .val (.ref bl), .val (.long (0 : Int64)), .second, .val (.long (0 : Int64)), .second, .val (.ref b_260), .val (.int r), .unset] [(.long (0 : Int64)), (.long q1), (.long (q0 &&& (-1 : Int64)))])) rfl (hb hby at_301) _ k) ?_
          show Win p.tables e below _ (T_263.setTop (mkF m 304 #[.val (.long q0), .second, .val (.long q1), .second, .val (.int p4), .val (.int p5), .val (.int nu0), .val (.int nu1), .val (.int nu2), .val (.int nu3), .val (.int (0 : Int32)), .val (.ref bl), .val (.long (0 : Int64)), .second, .val (.long (0 : Int64)), .second, .val (.ref b_260), .val (.int r), .unset] [(.long (-1 : Int64)), (.long (0 : Int64)), (.long q1), (.long (q0 &&& (-1 : Int64)))]))
          refine Win.go (fun _ k => XS.lxor X_263.here hx rfl (hb hby at_304) rfl k) ?_
          show Win p.tables e below _ (T_263.setTop (mkF m 305 #[.val (.long q0), .second, .val (.long q1), .second, .val (.int p4), .val (.int p5), .val (.int nu0), .val (.int nu1), .val (.int nu2), .val (.int nu3), .val (.int (0 : Int32)), .val (.ref bl), .val (.long (0 : Int64)), .second, .val (.long (0 : Int64)), .second, .val (.ref b_260), .val (.int r), .unset] [(.long (-1 : Int64)), (.long q1), (.long (q0 &&& (-1 : Int64)))]))
          refine s_land (pc' := 306) X_263.here hx (hb hby at_305) rfl ?_
          refine s_lor (pc' := 307) X_263.here hx (hb hby at_306) rfl ?_
          refine s_lconst (pc' := 308) (z := (0 : Int64)) X_263.here hx (hb hby at_307) rfl rfl ?_
          refine s_lcmp (pc' := 309) X_263.here hx (hb hby at_308) rfl ?_
          by_cases hc309 : (((q0 &&& (-1 : Int64)) ||| (q1 &&& (-1 : Int64)))).toInt = (0 : Int)
          · skip
            refine s_ifYes (pc' := 316) X_263.here hx (hb hby at_309) (teqL (x := ((q0 &&& (-1 : Int64)) ||| (q1 &&& (-1 : Int64)))) (y := (0 : Int64)) hc309).1 (by decide) (by decide) ?_
            refine s_iconst (pc' := 317) (z := (0 : Int32)) X_263.here hx (hb hby at_316) rfl rfl ?_
            refine s_istore (pc' := 319) (l' := #[.val (.long q0), .second, .val (.long q1), .second, .val (.int p4), .val (.int p5), .val (.int nu0), .val (.int nu1), .val (.int nu2), .val (.int nu3), .val (.int (0 : Int32)), .val (.ref bl), .val (.long (0 : Int64)), .second, .val (.long (0 : Int64)), .second, .val (.ref b_260), .val (.int r), .val (.int (0 : Int32))]) X_263.here hx (hb hby at_317) rfl rfl ?_
            refine s_iload (pc' := 321) X_263.here hx (hb hby at_319) rfl rfl ?_
            refine s_iload (pc' := 323) X_263.here hx (hb hby at_321) rfl rfl ?_
            by_cases hc323 : (r).toInt = (0 : Int)
            · skip
              refine s_icmpNo (pc' := 326) X_263.here hx (hb hby at_323) rfl (teqI (x := r) (y := (0 : Int32)) hc323).2 ?_
              refine s_aload (pc' := 328) X_263.here hx (hb hby at_326) rfl rfl rfl ?_
              refine s_iconst (pc' := 329) (z := (0 : Int32)) X_263.here hx (hb hby at_328) rfl rfl ?_
              obtain ⟨cl_264, Ar_264, q_264, S_264, N_264, H_264, G_264⟩ := id V_b_260
              have hi_264 : ¬ ((0 : Int32) < 0 ∨ cl_264.slots.size ≤ ((0 : Int32)).toNatClampNeg) := inb_of S_264 ⟨by decide, by decide⟩
              refine Win.go (fun _ k => X_263.laload hx (j := (0 : Int32)) (v := (.long (q0 &&& (0 : Int64)))) (by rw [e_263]; exact Ar_264.1) (State.isArrayOf_alike hZ.alike Ar_264.2.1) Ar_264.2.2 hi_264 (H_264.at hi_264 rfl) (g := (mkF m 329 #[.val (.long q0), .second, .val (.long q1), .second, .val (.int p4), .val (.int p5), .val (.int nu0), .val (.int nu1), .val (.int nu2), .val (.int nu3), .val (.int (0 : Int32)), .val (.ref bl), .val (.long (0 : Int64)), .second, .val (.long (0 : Int64)), .second, .val (.ref b_260), .val (.int r), .val (.int (0 : Int32))] [(.int (0 : Int32)), (.ref b_260)])) rfl rfl (hb hby at_329) _ k) ?_
              show Win p.tables e below _ (T_263.setTop (mkF m 330 #[.val (.long q0), .second, .val (.long q1), .second, .val (.int p4), .val (.int p5), .val (.int nu0), .val (.int nu1), .val (.int nu2), .val (.int nu3), .val (.int (0 : Int32)), .val (.ref bl), .val (.long (0 : Int64)), .second, .val (.long (0 : Int64)), .second, .val (.ref b_260), .val (.int r), .val (.int (0 : Int32))] [(.long (q0 &&& (0 : Int64)))]))
              clear Ar_264 q_264 S_264 N_264 H_264 G_264 hi_264
              refine s_lloadN (pc' := 331) X_263.here hx (hb hby at_330) rfl rfl ?_
              refine s_lload (pc' := 333) X_263.here hx (hb hby at_331) rfl rfl ?_
              refine s_land (pc' := 334) X_263.here hx (hb hby at_333) rfl ?_
              refine s_lcmp (pc' := 335) X_263.here hx (hb hby at_334) rfl ?_
              refine s_ifNo (pc' := 338) X_263.here hx (hb hby at_335) rfl (teqL (x := (q0 &&& (0 : Int64))) (y := (q0 &&& (0 : Int64))) (rfl)).2 ?_
              refine s_aload (pc' := 340) X_263.here hx (hb hby at_338) rfl rfl rfl ?_
              refine s_iconst (pc' := 341) (z := (1 : Int32)) X_263.here hx (hb hby at_340) rfl rfl ?_
              obtain ⟨cl_265, Ar_265, q_265, S_265, N_265, H_265, G_265⟩ := id V_b_260
              have hi_265 : ¬ ((1 : Int32) < 0 ∨ cl_265.slots.size ≤ ((1 : Int32)).toNatClampNeg) := inb_of S_265 ⟨by decide, by decide⟩
              refine Win.go (fun _ k => X_263.laload hx (j := (1 : Int32)) (v := (.long (q1 &&& (0 : Int64)))) (by rw [e_263]; exact Ar_265.1) (State.isArrayOf_alike hZ.alike Ar_265.2.1) Ar_265.2.2 hi_265 (H_265.at hi_265 rfl) (g := (mkF m 341 #[.val (.long q0), .second, .val (.long q1), .second, .val (.int p4), .val (.int p5), .val (.int nu0), .val (.int nu1), .val (.int nu2), .val (.int nu3), .val (.int (0 : Int32)), .val (.ref bl), .val (.long (0 : Int64)), .second, .val (.long (0 : Int64)), .second, .val (.ref b_260), .val (.int r), .val (.int (0 : Int32))] [(.int (1 : Int32)), (.ref b_260)])) rfl rfl (hb hby at_341) _ k) ?_
              show Win p.tables e below _ (T_263.setTop (mkF m 342 #[.val (.long q0), .second, .val (.long q1), .second, .val (.int p4), .val (.int p5), .val (.int nu0), .val (.int nu1), .val (.int nu2), .val (.int nu3), .val (.int (0 : Int32)), .val (.ref bl), .val (.long (0 : Int64)), .second, .val (.long (0 : Int64)), .second, .val (.ref b_260), .val (.int r), .val (.int (0 : Int32))] [(.long (q1 &&& (0 : Int64)))]))
              clear Ar_265 q_265 S_265 N_265 H_265 G_265 hi_265
              refine s_lloadN (pc' := 343) X_263.here hx (hb hby at_342) rfl rfl ?_
              refine s_lload (pc' := 345) X_263.here hx (hb hby at_343) rfl rfl ?_
              refine s_land (pc' := 346) X_263.here hx (hb hby at_345) rfl ?_
              refine s_lcmp (pc' := 347) X_263.here hx (hb hby at_346) rfl ?_
              refine s_ifNo (pc' := 350) X_263.here hx (hb hby at_347) rfl (teqL (x := (q1 &&& (0 : Int64))) (y := (q1 &&& (0 : Int64))) (rfl)).2 ?_
              refine s_iconst (pc' := 351) (z := (1 : Int32)) X_263.here hx (hb hby at_350) rfl rfl ?_
              refine s_goto (pc' := 355) X_263.here hx (hb hby at_351) (by decide) (by decide) ?_
              refine winN X_263 hx hlk e_263 (t := .boolean) Bd.returns (by simp) (hb hby at_355) (by decide) (by decide) (z' := 1) rfl ⟨Nf, rfl⟩
            · skip
              refine s_icmpYes (pc' := 354) X_263.here hx (hb hby at_323) (feqI (x := r) (y := (0 : Int32)) hc323).2 (by decide) (by decide) ?_
              refine s_iconst (pc' := 355) (z := (0 : Int32)) X_263.here hx (hb hby at_354) rfl rfl ?_
              exfalso
              omega
          · skip
            refine s_ifNo (pc' := 312) X_263.here hx (hb hby at_309) rfl (feqL (x := ((q0 &&& (-1 : Int64)) ||| (q1 &&& (-1 : Int64)))) (y := (0 : Int64)) hc309).1 ?_
            refine s_iconst (pc' := 313) (z := (1 : Int32)) X_263.here hx (hb hby at_312) rfl rfl ?_
            refine s_goto (pc' := 317) X_263.here hx (hb hby at_313) (by decide) (by decide) ?_
            refine s_istore (pc' := 319) (l' := #[.val (.long q0), .second, .val (.long q1), .second, .val (.int p4), .val (.int p5), .val (.int nu0), .val (.int nu1), .val (.int nu2), .val (.int nu3), .val (.int (0 : Int32)), .val (.ref bl), .val (.long (0 : Int64)), .second, .val (.long (0 : Int64)), .second, .val (.ref b_260), .val (.int r), .val (.int (1 : Int32))]) X_263.here hx (hb hby at_317) rfl rfl ?_
            refine s_iload (pc' := 321) X_263.here hx (hb hby at_319) rfl rfl ?_
            refine s_iload (pc' := 323) X_263.here hx (hb hby at_321) rfl rfl ?_
            by_cases hc323 : (r).toInt = (1 : Int)
            · skip
              refine s_icmpNo (pc' := 326) X_263.here hx (hb hby at_323) rfl (teqI (x := r) (y := (1 : Int32)) hc323).2 ?_
              refine s_aload (pc' := 328) X_263.here hx (hb hby at_326) rfl rfl rfl ?_
              refine s_iconst (pc' := 329) (z := (0 : Int32)) X_263.here hx (hb hby at_328) rfl rfl ?_
              obtain ⟨cl_266, Ar_266, q_266, S_266, N_266, H_266, G_266⟩ := id V_b_260
              have hi_266 : ¬ ((0 : Int32) < 0 ∨ cl_266.slots.size ≤ ((0 : Int32)).toNatClampNeg) := inb_of S_266 ⟨by decide, by decide⟩
              refine Win.go (fun _ k => X_263.laload hx (j := (0 : Int32)) (v := (.long (q0 &&& (0 : Int64)))) (by rw [e_263]; exact Ar_266.1) (State.isArrayOf_alike hZ.alike Ar_266.2.1) Ar_266.2.2 hi_266 (H_266.at hi_266 rfl) (g := (mkF m 329 #[.val (.long q0), .second, .val (.long q1), .second, .val (.int p4), .val (.int p5), .val (.int nu0), .val (.int nu1), .val (.int nu2), .val (.int nu3), .val (.int (0 : Int32)), .val (.ref bl), .val (.long (0 : Int64)), .second, .val (.long (0 : Int64)), .second, .val (.ref b_260), .val (.int r), .val (.int (1 : Int32))] [(.int (0 : Int32)), (.ref b_260)])) rfl rfl (hb hby at_329) _ k) ?_
              show Win p.tables e below _ (T_263.setTop (mkF m 330 #[.val (.long q0), .second, .val (.long q1), .second, .val (.int p4), .val (.int p5), .val (.int nu0), .val (.int nu1), .val (.int nu2), .val (.int nu3), .val (.int (0 : Int32)), .val (.ref bl), .val (.long (0 : Int64)), .second, .val (.long (0 : Int64)), .second, .val (.ref b_260), .val (.int r), .val (.int (1 : Int32))] [(.long (q0 &&& (0 : Int64)))]))
              clear Ar_266 q_266 S_266 N_266 H_266 G_266 hi_266
              refine s_lloadN (pc' := 331) X_263.here hx (hb hby at_330) rfl rfl ?_
              refine s_lload (pc' := 333) X_263.here hx (hb hby at_331) rfl rfl ?_
              refine s_land (pc' := 334) X_263.here hx (hb hby at_333) rfl ?_
              refine s_lcmp (pc' := 335) X_263.here hx (hb hby at_334) rfl ?_
              refine s_ifNo (pc' := 338) X_263.here hx (hb hby at_335) rfl (teqL (x := (q0 &&& (0 : Int64))) (y := (q0 &&& (0 : Int64))) (rfl)).2 ?_
              refine s_aload (pc' := 340) X_263.here hx (hb hby at_338) rfl rfl rfl ?_
              refine s_iconst (pc' := 341) (z := (1 : Int32)) X_263.here hx (hb hby at_340) rfl rfl ?_
              obtain ⟨cl_267, Ar_267, q_267, S_267, N_267, H_267, G_267⟩ := id V_b_260
              have hi_267 : ¬ ((1 : Int32) < 0 ∨ cl_267.slots.size ≤ ((1 : Int32)).toNatClampNeg) := inb_of S_267 ⟨by decide, by decide⟩
              refine Win.go (fun _ k => X_263.laload hx (j := (1 : Int32)) (v := (.long (q1 &&& (0 : Int64)))) (by rw [e_263]; exact Ar_267.1) (State.isArrayOf_alike hZ.alike Ar_267.2.1) Ar_267.2.2 hi_267 (H_267.at hi_267 rfl) (g := (mkF m 341 #[.val (.long q0), .second, .val (.long q1), .second, .val (.int p4), .val (.int p5), .val (.int nu0), .val (.int nu1), .val (.int nu2), .val (.int nu3), .val (.int (0 : Int32)), .val (.ref bl), .val (.long (0 : Int64)), .second, .val (.long (0 : Int64)), .second, .val (.ref b_260), .val (.int r), .val (.int (1 : Int32))] [(.int (1 : Int32)), (.ref b_260)])) rfl rfl (hb hby at_341) _ k) ?_
              show Win p.tables e below _ (T_263.setTop (mkF m 342 #[.val (.long q0), .second, .val (.long q1), .second, .val (.int p4), .val (.int p5), .val (.int nu0), .val (.int nu1), .val (.int nu2), .val (.int nu3), .val (.int (0 : Int32)), .val (.ref bl), .val (.long (0 : Int64)), .second, .val (.long (0 : Int64)), .second, .val (.ref b_260), .val (.int r), .val (.int (1 : Int32))] [(.long (q1 &&& (0 : Int64)))]))
              clear Ar_267 q_267 S_267 N_267 H_267 G_267 hi_267
              refine s_lloadN (pc' := 343) X_263.here hx (hb hby at_342) rfl rfl ?_
              refine s_lload (pc' := 345) X_263.here hx (hb hby at_343) rfl rfl ?_
              refine s_land (pc' := 346) X_263.here hx (hb hby at_345) rfl ?_
              refine s_lcmp (pc' := 347) X_263.here hx (hb hby at_346) rfl ?_
              refine s_ifNo (pc' := 350) X_263.here hx (hb hby at_347) rfl (teqL (x := (q1 &&& (0 : Int64))) (y := (q1 &&& (0 : Int64))) (rfl)).2 ?_
              refine s_iconst (pc' := 351) (z := (1 : Int32)) X_263.here hx (hb hby at_350) rfl rfl ?_
              refine s_goto (pc' := 355) X_263.here hx (hb hby at_351) (by decide) (by decide) ?_
              refine winN X_263 hx hlk e_263 (t := .boolean) Bd.returns (by simp) (hb hby at_355) (by decide) (by decide) (z' := 1) rfl ⟨Nf, rfl⟩
            · skip
              refine s_icmpYes (pc' := 354) X_263.here hx (hb hby at_323) (feqI (x := r) (y := (1 : Int32)) hc323).2 (by decide) (by decide) ?_
              refine s_iconst (pc' := 355) (z := (0 : Int32)) X_263.here hx (hb hby at_354) rfl rfl ?_
              exfalso
              omega
        · skip
          show Win p.tables e below _ (TJ109.setTop (mkF m 109 #[.val (.long q0), .second, .val (.long q1), .second, .val (.int p4), .val (.int p5), .val (.int nu0), .val (.int nu1), .val (.int nu2), .val (.int nu3), .val (.int (1 : Int32)), .unset, .unset, .unset, .unset, .unset, .unset, .unset, .unset] []))
          have hcl : ((1 : Int32)).toInt = 1 := rfl
          rw [hcl] at hJ109
          refine s_iload (pc' := 111) XJ109.here hx (hb hby at_109) rfl rfl ?_
          refine s_iload (pc' := 113) XJ109.here hx (hb hby at_111) rfl rfl ?_
          refine s_iload (pc' := 115) XJ109.here hx (hb hby at_113) rfl rfl ?_
          refine s_iload (pc' := 117) XJ109.here hx (hb hby at_115) rfl rfl ?_
          refine s_iload (pc' := 119) XJ109.here hx (hb hby at_117) rfl rfl ?_
          obtain ⟨_, _, ⟨T_268, L_268, k_268, n_268⟩, -, X_268, ⟨Lc_268, hQ_268, l_268, y_268, z_268⟩, st_268⟩ := Jvm.LawKit.callS XJ109 hx (y := (⟨"com/example/faithful_deputy/faithfuldeputy/BitsKeepOnlyPinLaw", "list", "(IIIII)[I"⟩ : MethodName)) hown (mvT hZ (hw _ (List.mem_of_getElem? (i := 1) rfl))) (mvT hZ (hw _ (List.mem_of_getElem? (i := 2) rfl))) (mvT hZ (hw _ (List.mem_of_getElem? (i := 3) rfl))) (mvT hZ (hw _ (List.mem_of_getElem? (i := 4) rfl))) (by decide) (backOf (W := 0) (rm1_1 l Z a0 hw [] nu0 nu1 nu2 nu3 h0 n0 Zs ) hZ (hw _ (List.mem_of_getElem? (i := 4) rfl)) (hw _ (List.mem_of_getElem? (i := 3) rfl)) (by decide) (by decide)) (g := (mkF m 119 #[.val (.long q0), .second, .val (.long q1), .second, .val (.int p4), .val (.int p5), .val (.int nu0), .val (.int nu1), .val (.int nu2), .val (.int nu3), .val (.int (1 : Int32)), .unset, .unset, .unset, .unset, .unset, .unset, .unset, .unset] [(.int nu3), (.int nu2), (.int nu1), (.int nu0), (.int (1 : Int32))])) rfl (by rw [hml]; rfl) (argsL := [(.int (1 : Int32)), (.int nu0), (.int nu1), (.int nu2), (.int nu3)]) (rest := []) (lenOf pd_0 rfl) rfl (by show 2 * 0 + _ ≤ _; exact Nat.le_of_eq rfl) (hb hby at_119) (fun _ _ => ⟨rfl, eJ109, (by decide : 0 + 1 ≤ _), (by decide : 0 + 1 ≤ _)⟩)
          dsimp only [Pt.U, Pt.locs, Pt.cells, Pt.slots] at X_268 l_268 y_268 z_268 st_268 hQ_268
          subst l_268 y_268 z_268
          obtain ⟨h_268, e_268⟩ : ∃ z, T_268.heap = z := ⟨_, rfl⟩
          rw [e_268] at hQ_268
          obtain ⟨Nq_268, K_268, bl, kk_268, rfl, g_bl, so_268, n_268_V_bl⟩ := hQ_268
          replace Nf := Fr.app Nf Nq_268
          replace Zs := Nat.le_trans Zs K_268.1
          have V_bl := n_268_V_bl
          have lt_bl := V_bl.lt
          refine Win.go st_268 ?_
          clear st_268 Nq_268 XJ109 eJ109 K_268
          show Win p.tables e below _ (T_268.setTop (mkF m 122 #[.val (.long q0), .second, .val (.long q1), .second, .val (.int p4), .val (.int p5), .val (.int nu0), .val (.int nu1), .val (.int nu2), .val (.int nu3), .val (.int (1 : Int32)), .unset, .unset, .unset, .unset, .unset, .unset, .unset, .unset] [(.ref bl)]))
          refine s_astore (pc' := 124) (l' := #[.val (.long q0), .second, .val (.long q1), .second, .val (.int p4), .val (.int p5), .val (.int nu0), .val (.int nu1), .val (.int nu2), .val (.int nu3), .val (.int (1 : Int32)), .val (.ref bl), .unset, .unset, .unset, .unset, .unset, .unset, .unset]) X_268.here hx (hb hby at_122) rfl rfl rfl ?_
          refine s_iload (pc' := 126) X_268.here hx (hb hby at_124) rfl rfl ?_
          refine s_iconst (pc' := 127) (z := (0 : Int32)) X_268.here hx (hb hby at_126) rfl rfl ?_
          refine s_iload (pc' := 129) X_268.here hx (hb hby at_127) rfl rfl ?_
          refine s_ifNo (pc' := 132) X_268.here hx (hb hby at_129) rfl ((if0 _ _).trans (tltI (x := (0 : Int32)) (y := (1 : Int32)) (by decide)).2.2.2) ?_
          refine s_iconst (pc' := 133) (z := (1 : Int32)) X_268.here hx (hb hby at_132) rfl rfl ?_
          refine s_goto (pc' := 137) X_268.here hx (hb hby at_133) (by decide) (by decide) ?_
          obtain ⟨_, _, ⟨T_269, L_269, k_269, n_269⟩, -, X_269, ⟨Lc_269, hQ_269, l_269, y_269, z_269⟩, st_269⟩ := Jvm.LawKit.callS X_268 hx (y := (⟨"com/example/faithful_deputy/faithfuldeputy/BitsKeepOnlyPinLaw", "bitIn", "(IIZ)J"⟩ : MethodName)) hown (mvT hZ (hw _ (List.mem_of_getElem? (i := 6) rfl))) (mvT hZ (hw _ (List.mem_of_getElem? (i := 7) rfl))) (mvT hZ (hw _ (List.mem_of_getElem? (i := 3) rfl))) (mvT hZ (hw _ (List.mem_of_getElem? (i := 8) rfl))) (by decide) (backOf (W := 0) (rm2_0_1 l Z a0 hw [] nu0 h_268 n0 Zs ) hZ (hw _ (List.mem_of_getElem? (i := 8) rfl)) (hw _ (List.mem_of_getElem? (i := 3) rfl)) (by decide) (by decide)) (g := (mkF m 137 #[.val (.long q0), .second, .val (.long q1), .second, .val (.int p4), .val (.int p5), .val (.int nu0), .val (.int nu1), .val (.int nu2), .val (.int nu3), .val (.int (1 : Int32)), .val (.ref bl), .unset, .unset, .unset, .unset, .unset, .unset, .unset] [(.int (1 : Int32)), (.int (0 : Int32)), (.int nu0)])) rfl (by rw [hml]; rfl) (argsL := [(.int nu0), (.int (0 : Int32)), (.int (1 : Int32))]) (rest := []) (lenOf pd_1 rfl) rfl (by show 2 * 0 + _ ≤ _; exact Nat.le_of_eq rfl) (hb hby at_137) (fun _ _ => ⟨rfl, e_268, (by decide : 1 + 0 ≤ _), (by decide : 1 + 0 ≤ _)⟩)
          dsimp only [Pt.U, Pt.locs, Pt.cells, Pt.slots] at X_269 l_269 y_269 z_269 st_269 hQ_269
          subst l_269 y_269 z_269
          obtain ⟨Nq_269, e_269, z00, rfl, hz00⟩ := hQ_269
          replace Nf := Fr.app Nf Nq_269
          refine Win.go st_269 ?_
          clear st_269 Nq_269 X_268 e_268
          show Win p.tables e below _ (T_269.setTop (mkF m 140 #[.val (.long q0), .second, .val (.long q1), .second, .val (.int p4), .val (.int p5), .val (.int nu0), .val (.int nu1), .val (.int nu2), .val (.int nu3), .val (.int (1 : Int32)), .val (.ref bl), .unset, .unset, .unset, .unset, .unset, .unset, .unset] [(.long z00)]))
          refine s_iload (pc' := 142) X_269.here hx (hb hby at_140) rfl rfl ?_
          refine s_iconst (pc' := 143) (z := (0 : Int32)) X_269.here hx (hb hby at_142) rfl rfl ?_
          refine s_iload (pc' := 145) X_269.here hx (hb hby at_143) rfl rfl ?_
          refine s_iconst (pc' := 146) (z := (1 : Int32)) X_269.here hx (hb hby at_145) rfl rfl ?_
          refine s_icmpYes (pc' := 153) X_269.here hx (hb hby at_146) (fltI (x := (1 : Int32)) (y := (1 : Int32)) (by decide)).2.2.2 (by decide) (by decide) ?_
          refine s_iconst (pc' := 154) (z := (0 : Int32)) X_269.here hx (hb hby at_153) rfl rfl ?_
          obtain ⟨_, _, ⟨T_270, L_270, k_270, n_270⟩, -, X_270, ⟨Lc_270, hQ_270, l_270, y_270, z_270⟩, st_270⟩ := Jvm.LawKit.callS X_269 hx (y := (⟨"com/example/faithful_deputy/faithfuldeputy/BitsKeepOnlyPinLaw", "bitIn", "(IIZ)J"⟩ : MethodName)) hown (mvT hZ (hw _ (List.mem_of_getElem? (i := 6) rfl))) (mvT hZ (hw _ (List.mem_of_getElem? (i := 7) rfl))) (mvT hZ (hw _ (List.mem_of_getElem? (i := 3) rfl))) (mvT hZ (hw _ (List.mem_of_getElem? (i := 8) rfl))) (by decide) (backOf (W := 2) (rm2_0_0 l Z a0 hw [] nu1 h_268 n0 Zs ) hZ (hw _ (List.mem_of_getElem? (i := 8) rfl)) (hw _ (List.mem_of_getElem? (i := 3) rfl)) (by decide) (by decide)) (g := (mkF m 154 #[.val (.long q0), .second, .val (.long q1), .second, .val (.int p4), .val (.int p5), .val (.int nu0), .val (.int nu1), .val (.int nu2), .val (.int nu3), .val (.int (1 : Int32)), .val (.ref bl), .unset, .unset, .unset, .unset, .unset, .unset, .unset] [(.int (0 : Int32)), (.int (0 : Int32)), (.int nu1), (.long z00)])) rfl (by rw [hml]; rfl) (argsL := [(.int nu1), (.int (0 : Int32)), (.int (0 : Int32))]) (rest := [(.long z00)]) (lenOf pd_1 rfl) rfl (by show 2 * 0 + _ ≤ _; exact Nat.le_of_eq rfl) (hb hby at_154) (fun _ _ => ⟨rfl, e_269, (by decide : 1 + 0 ≤ _), (by decide : 1 + 0 ≤ _)⟩)
          dsimp only [Pt.U, Pt.locs, Pt.cells, Pt.slots] at X_270 l_270 y_270 z_270 st_270 hQ_270
          subst l_270 y_270 z_270
          obtain ⟨Nq_270, e_270, rfl⟩ := hQ_270
          replace Nf := Fr.app Nf Nq_270
          refine Win.go st_270 ?_
          clear st_270 Nq_270 X_269 e_269
          show Win p.tables e below _ (T_270.setTop (mkF m 157 #[.val (.long q0), .second, .val (.long q1), .second, .val (.int p4), .val (.int p5), .val (.int nu0), .val (.int nu1), .val (.int nu2), .val (.int nu3), .val (.int (1 : Int32)), .val (.ref bl), .unset, .unset, .unset, .unset, .unset, .unset, .unset] [(.long (0 : Int64)), (.long z00)]))
          refine s_lor (pc' := 158) X_270.here hx (hb hby at_157) rfl ?_
          refine s_iload (pc' := 160) X_270.here hx (hb hby at_158) rfl rfl ?_
          refine s_iconst (pc' := 161) (z := (0 : Int32)) X_270.here hx (hb hby at_160) rfl rfl ?_
          refine s_iload (pc' := 163) X_270.here hx (hb hby at_161) rfl rfl ?_
          refine s_iconst (pc' := 164) (z := (2 : Int32)) X_270.here hx (hb hby at_163) rfl rfl ?_
          refine s_icmpYes (pc' := 171) X_270.here hx (hb hby at_164) (fltI (x := (2 : Int32)) (y := (1 : Int32)) (by decide)).2.2.2 (by decide) (by decide) ?_
          refine s_iconst (pc' := 172) (z := (0 : Int32)) X_270.here hx (hb hby at_171) rfl rfl ?_
          obtain ⟨_, _, ⟨T_271, L_271, k_271, n_271⟩, -, X_271, ⟨Lc_271, hQ_271, l_271, y_271, z_271⟩, st_271⟩ := Jvm.LawKit.callS X_270 hx (y := (⟨"com/example/faithful_deputy/faithfuldeputy/BitsKeepOnlyPinLaw", "bitIn", "(IIZ)J"⟩ : MethodName)) hown (mvT hZ (hw _ (List.mem_of_getElem? (i := 6) rfl))) (mvT hZ (hw _ (List.mem_of_getElem? (i := 7) rfl))) (mvT hZ (hw _ (List.mem_of_getElem? (i := 3) rfl))) (mvT hZ (hw _ (List.mem_of_getElem? (i := 8) rfl))) (by decide) (backOf (W := 2) (rm2_0_0 l Z a0 hw [] nu2 h_268 n0 Zs ) hZ (hw _ (List.mem_of_getElem? (i := 8) rfl)) (hw _ (List.mem_of_getElem? (i := 3) rfl)) (by decide) (by decide)) (g := (mkF m 172 #[.val (.long q0), .second, .val (.long q1), .second, .val (.int p4), .val (.int p5), .val (.int nu0), .val (.int nu1), .val (.int nu2), .val (.int nu3), .val (.int (1 : Int32)), .val (.ref bl), .unset, .unset, .unset, .unset, .unset, .unset, .unset] [(.int (0 : Int32)), (.int (0 : Int32)), (.int nu2), (.long (z00 ||| (0 : Int64)))])) rfl (by rw [hml]; rfl) (argsL := [(.int nu2), (.int (0 : Int32)), (.int (0 : Int32))]) (rest := [(.long (z00 ||| (0 : Int64)))]) (lenOf pd_1 rfl) rfl (by show 2 * 0 + _ ≤ _; exact Nat.le_of_eq rfl) (hb hby at_172) (fun _ _ => ⟨rfl, e_270, (by decide : 1 + 0 ≤ _), (by decide : 1 + 0 ≤ _)⟩)
          dsimp only [Pt.U, Pt.locs, Pt.cells, Pt.slots] at X_271 l_271 y_271 z_271 st_271 hQ_271
          subst l_271 y_271 z_271
          obtain ⟨Nq_271, e_271, rfl⟩ := hQ_271
          replace Nf := Fr.app Nf Nq_271
          refine Win.go st_271 ?_
          clear st_271 Nq_271 X_270 e_270
          show Win p.tables e below _ (T_271.setTop (mkF m 175 #[.val (.long q0), .second, .val (.long q1), .second, .val (.int p4), .val (.int p5), .val (.int nu0), .val (.int nu1), .val (.int nu2), .val (.int nu3), .val (.int (1 : Int32)), .val (.ref bl), .unset, .unset, .unset, .unset, .unset, .unset, .unset] [(.long (0 : Int64)), (.long (z00 ||| (0 : Int64)))]))
          refine s_lor (pc' := 176) X_271.here hx (hb hby at_175) rfl ?_
          refine s_iload (pc' := 178) X_271.here hx (hb hby at_176) rfl rfl ?_
          refine s_iconst (pc' := 179) (z := (0 : Int32)) X_271.here hx (hb hby at_178) rfl rfl ?_
          refine s_iload (pc' := 181) X_271.here hx (hb hby at_179) rfl rfl ?_
          refine s_iconst (pc' := 182) (z := (3 : Int32)) X_271.here hx (hb hby at_181) rfl rfl ?_
          refine s_icmpYes (pc' := 189) X_271.here hx (hb hby at_182) (fltI (x := (3 : Int32)) (y := (1 : Int32)) (by decide)).2.2.2 (by decide) (by decide) ?_
          refine s_iconst (pc' := 190) (z := (0 : Int32)) X_271.here hx (hb hby at_189) rfl rfl ?_
          obtain ⟨_, _, ⟨T_272, L_272, k_272, n_272⟩, -, X_272, ⟨Lc_272, hQ_272, l_272, y_272, z_272⟩, st_272⟩ := Jvm.LawKit.callS X_271 hx (y := (⟨"com/example/faithful_deputy/faithfuldeputy/BitsKeepOnlyPinLaw", "bitIn", "(IIZ)J"⟩ : MethodName)) hown (mvT hZ (hw _ (List.mem_of_getElem? (i := 6) rfl))) (mvT hZ (hw _ (List.mem_of_getElem? (i := 7) rfl))) (mvT hZ (hw _ (List.mem_of_getElem? (i := 3) rfl))) (mvT hZ (hw _ (List.mem_of_getElem? (i := 8) rfl))) (by decide) (backOf (W := 2) (rm2_0_0 l Z a0 hw [] nu3 h_268 n0 Zs ) hZ (hw _ (List.mem_of_getElem? (i := 8) rfl)) (hw _ (List.mem_of_getElem? (i := 3) rfl)) (by decide) (by decide)) (g := (mkF m 190 #[.val (.long q0), .second, .val (.long q1), .second, .val (.int p4), .val (.int p5), .val (.int nu0), .val (.int nu1), .val (.int nu2), .val (.int nu3), .val (.int (1 : Int32)), .val (.ref bl), .unset, .unset, .unset, .unset, .unset, .unset, .unset] [(.int (0 : Int32)), (.int (0 : Int32)), (.int nu3), (.long ((z00 ||| (0 : Int64)) ||| (0 : Int64)))])) rfl (by rw [hml]; rfl) (argsL := [(.int nu3), (.int (0 : Int32)), (.int (0 : Int32))]) (rest := [(.long ((z00 ||| (0 : Int64)) ||| (0 : Int64)))]) (lenOf pd_1 rfl) rfl (by show 2 * 0 + _ ≤ _; exact Nat.le_of_eq rfl) (hb hby at_190) (fun _ _ => ⟨rfl, e_271, (by decide : 1 + 0 ≤ _), (by decide : 1 + 0 ≤ _)⟩)
          dsimp only [Pt.U, Pt.locs, Pt.cells, Pt.slots] at X_272 l_272 y_272 z_272 st_272 hQ_272
          subst l_272 y_272 z_272
          obtain ⟨Nq_272, e_272, rfl⟩ := hQ_272
          replace Nf := Fr.app Nf Nq_272
          refine Win.go st_272 ?_
          clear st_272 Nq_272 X_271 e_271
          show Win p.tables e below _ (T_272.setTop (mkF m 193 #[.val (.long q0), .second, .val (.long q1), .second, .val (.int p4), .val (.int p5), .val (.int nu0), .val (.int nu1), .val (.int nu2), .val (.int nu3), .val (.int (1 : Int32)), .val (.ref bl), .unset, .unset, .unset, .unset, .unset, .unset, .unset] [(.long (0 : Int64)), (.long ((z00 ||| (0 : Int64)) ||| (0 : Int64)))]))
          refine s_lor (pc' := 194) X_272.here hx (hb hby at_193) rfl ?_
          refine s_lstore (pc' := 196) (l' := #[.val (.long q0), .second, .val (.long q1), .second, .val (.int p4), .val (.int p5), .val (.int nu0), .val (.int nu1), .val (.int nu2), .val (.int nu3), .val (.int (1 : Int32)), .val (.ref bl), .val (.long (((z00 ||| (0 : Int64)) ||| (0 : Int64)) ||| (0 : Int64))), .second, .unset, .unset, .unset, .unset, .unset]) X_272.here hx (hb hby at_194) rfl rfl ?_
          generalize hm0 : (((z00 ||| (0 : Int64)) ||| (0 : Int64)) ||| (0 : Int64)) = m0
          show Win p.tables e below _ (T_272.setTop (mkF m 196 #[.val (.long q0), .second, .val (.long q1), .second, .val (.int p4), .val (.int p5), .val (.int nu0), .val (.int nu1), .val (.int nu2), .val (.int nu3), .val (.int (1 : Int32)), .val (.ref bl), .val (.long m0), .second, .unset, .unset, .unset, .unset, .unset] []))
          refine s_iload (pc' := 198) X_272.here hx (hb hby at_196) rfl rfl ?_
          refine s_iconst (pc' := 199) (z := (1 : Int32)) X_272.here hx (hb hby at_198) rfl rfl ?_
          refine s_iload (pc' := 201) X_272.here hx (hb hby at_199) rfl rfl ?_
          refine s_ifNo (pc' := 204) X_272.here hx (hb hby at_201) rfl ((if0 _ _).trans (tltI (x := (0 : Int32)) (y := (1 : Int32)) (by decide)).2.2.2) ?_
          refine s_iconst (pc' := 205) (z := (1 : Int32)) X_272.here hx (hb hby at_204) rfl rfl ?_
          refine s_goto (pc' := 209) X_272.here hx (hb hby at_205) (by decide) (by decide) ?_
          obtain ⟨_, _, ⟨T_273, L_273, k_273, n_273⟩, -, X_273, ⟨Lc_273, hQ_273, l_273, y_273, z_273⟩, st_273⟩ := Jvm.LawKit.callS X_272 hx (y := (⟨"com/example/faithful_deputy/faithfuldeputy/BitsKeepOnlyPinLaw", "bitIn", "(IIZ)J"⟩ : MethodName)) hown (mvT hZ (hw _ (List.mem_of_getElem? (i := 6) rfl))) (mvT hZ (hw _ (List.mem_of_getElem? (i := 7) rfl))) (mvT hZ (hw _ (List.mem_of_getElem? (i := 3) rfl))) (mvT hZ (hw _ (List.mem_of_getElem? (i := 8) rfl))) (by decide) (backOf (W := 0) (rm2_1_1 l Z a0 hw [] nu0 h_268 n0 Zs ) hZ (hw _ (List.mem_of_getElem? (i := 8) rfl)) (hw _ (List.mem_of_getElem? (i := 3) rfl)) (by decide) (by decide)) (g := (mkF m 209 #[.val (.long q0), .second, .val (.long q1), .second, .val (.int p4), .val (.int p5), .val (.int nu0), .val (.int nu1), .val (.int nu2), .val (.int nu3), .val (.int (1 : Int32)), .val (.ref bl), .val (.long m0), .second, .unset, .unset, .unset, .unset, .unset] [(.int (1 : Int32)), (.int (1 : Int32)), (.int nu0)])) rfl (by rw [hml]; rfl) (argsL := [(.int nu0), (.int (1 : Int32)), (.int (1 : Int32))]) (rest := []) (lenOf pd_1 rfl) rfl (by show 2 * 0 + _ ≤ _; exact Nat.le_of_eq rfl) (hb hby at_209) (fun _ _ => ⟨rfl, e_272, (by decide : 1 + 0 ≤ _), (by decide : 1 + 0 ≤ _)⟩)
          dsimp only [Pt.U, Pt.locs, Pt.cells, Pt.slots] at X_273 l_273 y_273 z_273 st_273 hQ_273
          subst l_273 y_273 z_273
          obtain ⟨Nq_273, e_273, z10, rfl, hz10⟩ := hQ_273
          replace Nf := Fr.app Nf Nq_273
          refine Win.go st_273 ?_
          clear st_273 Nq_273 X_272 e_272
          show Win p.tables e below _ (T_273.setTop (mkF m 212 #[.val (.long q0), .second, .val (.long q1), .second, .val (.int p4), .val (.int p5), .val (.int nu0), .val (.int nu1), .val (.int nu2), .val (.int nu3), .val (.int (1 : Int32)), .val (.ref bl), .val (.long m0), .second, .unset, .unset, .unset, .unset, .unset] [(.long z10)]))
          refine s_iload (pc' := 214) X_273.here hx (hb hby at_212) rfl rfl ?_
          refine s_iconst (pc' := 215) (z := (1 : Int32)) X_273.here hx (hb hby at_214) rfl rfl ?_
          refine s_iload (pc' := 217) X_273.here hx (hb hby at_215) rfl rfl ?_
          refine s_iconst (pc' := 218) (z := (1 : Int32)) X_273.here hx (hb hby at_217) rfl rfl ?_
          refine s_icmpYes (pc' := 225) X_273.here hx (hb hby at_218) (fltI (x := (1 : Int32)) (y := (1 : Int32)) (by decide)).2.2.2 (by decide) (by decide) ?_
          refine s_iconst (pc' := 226) (z := (0 : Int32)) X_273.here hx (hb hby at_225) rfl rfl ?_
          obtain ⟨_, _, ⟨T_274, L_274, k_274, n_274⟩, -, X_274, ⟨Lc_274, hQ_274, l_274, y_274, z_274⟩, st_274⟩ := Jvm.LawKit.callS X_273 hx (y := (⟨"com/example/faithful_deputy/faithfuldeputy/BitsKeepOnlyPinLaw", "bitIn", "(IIZ)J"⟩ : MethodName)) hown (mvT hZ (hw _ (List.mem_of_getElem? (i := 6) rfl))) (mvT hZ (hw _ (List.mem_of_getElem? (i := 7) rfl))) (mvT hZ (hw _ (List.mem_of_getElem? (i := 3) rfl))) (mvT hZ (hw _ (List.mem_of_getElem? (i := 8) rfl))) (by decide) (backOf (W := 2) (rm2_1_0 l Z a0 hw [] nu1 h_268 n0 Zs ) hZ (hw _ (List.mem_of_getElem? (i := 8) rfl)) (hw _ (List.mem_of_getElem? (i := 3) rfl)) (by decide) (by decide)) (g := (mkF m 226 #[.val (.long q0), .second, .val (.long q1), .second, .val (.int p4), .val (.int p5), .val (.int nu0), .val (.int nu1), .val (.int nu2), .val (.int nu3), .val (.int (1 : Int32)), .val (.ref bl), .val (.long m0), .second, .unset, .unset, .unset, .unset, .unset] [(.int (0 : Int32)), (.int (1 : Int32)), (.int nu1), (.long z10)])) rfl (by rw [hml]; rfl) (argsL := [(.int nu1), (.int (1 : Int32)), (.int (0 : Int32))]) (rest := [(.long z10)]) (lenOf pd_1 rfl) rfl (by show 2 * 0 + _ ≤ _; exact Nat.le_of_eq rfl) (hb hby at_226) (fun _ _ => ⟨rfl, e_273, (by decide : 1 + 0 ≤ _), (by decide : 1 + 0 ≤ _)⟩)
          dsimp only [Pt.U, Pt.locs, Pt.cells, Pt.slots] at X_274 l_274 y_274 z_274 st_274 hQ_274
          subst l_274 y_274 z_274
          obtain ⟨Nq_274, e_274, rfl⟩ := hQ_274
          replace Nf := Fr.app Nf Nq_274
          refine Win.go st_274 ?_
          clear st_274 Nq_274 X_273 e_273
          show Win p.tables e below _ (T_274.setTop (mkF m 229 #[.val (.long q0), .second, .val (.long q1), .second, .val (.int p4), .val (.int p5), .val (.int nu0), .val (.int nu1), .val (.int nu2), .val (.int nu3), .val (.int (1 : Int32)), .val (.ref bl), .val (.long m0), .second, .unset, .unset, .unset, .unset, .unset] [(.long (0 : Int64)), (.long z10)]))
          refine s_lor (pc' := 230) X_274.here hx (hb hby at_229) rfl ?_
          refine s_iload (pc' := 232) X_274.here hx (hb hby at_230) rfl rfl ?_
          refine s_iconst (pc' := 233) (z := (1 : Int32)) X_274.here hx (hb hby at_232) rfl rfl ?_
          refine s_iload (pc' := 235) X_274.here hx (hb hby at_233) rfl rfl ?_
          refine s_iconst (pc' := 236) (z := (2 : Int32)) X_274.here hx (hb hby at_235) rfl rfl ?_
          refine s_icmpYes (pc' := 243) X_274.here hx (hb hby at_236) (fltI (x := (2 : Int32)) (y := (1 : Int32)) (by decide)).2.2.2 (by decide) (by decide) ?_
          refine s_iconst (pc' := 244) (z := (0 : Int32)) X_274.here hx (hb hby at_243) rfl rfl ?_
          obtain ⟨_, _, ⟨T_275, L_275, k_275, n_275⟩, -, X_275, ⟨Lc_275, hQ_275, l_275, y_275, z_275⟩, st_275⟩ := Jvm.LawKit.callS X_274 hx (y := (⟨"com/example/faithful_deputy/faithfuldeputy/BitsKeepOnlyPinLaw", "bitIn", "(IIZ)J"⟩ : MethodName)) hown (mvT hZ (hw _ (List.mem_of_getElem? (i := 6) rfl))) (mvT hZ (hw _ (List.mem_of_getElem? (i := 7) rfl))) (mvT hZ (hw _ (List.mem_of_getElem? (i := 3) rfl))) (mvT hZ (hw _ (List.mem_of_getElem? (i := 8) rfl))) (by decide) (backOf (W := 2) (rm2_1_0 l Z a0 hw [] nu2 h_268 n0 Zs ) hZ (hw _ (List.mem_of_getElem? (i := 8) rfl)) (hw _ (List.mem_of_getElem? (i := 3) rfl)) (by decide) (by decide)) (g := (mkF m 244 #[.val (.long q0), .second, .val (.long q1), .second, .val (.int p4), .val (.int p5), .val (.int nu0), .val (.int nu1), .val (.int nu2), .val (.int nu3), .val (.int (1 : Int32)), .val (.ref bl), .val (.long m0), .second, .unset, .unset, .unset, .unset, .unset] [(.int (0 : Int32)), (.int (1 : Int32)), (.int nu2), (.long (z10 ||| (0 : Int64)))])) rfl (by rw [hml]; rfl) (argsL := [(.int nu2), (.int (1 : Int32)), (.int (0 : Int32))]) (rest := [(.long (z10 ||| (0 : Int64)))]) (lenOf pd_1 rfl) rfl (by show 2 * 0 + _ ≤ _; exact Nat.le_of_eq rfl) (hb hby at_244) (fun _ _ => ⟨rfl, e_274, (by decide : 1 + 0 ≤ _), (by decide : 1 + 0 ≤ _)⟩)
          dsimp only [Pt.U, Pt.locs, Pt.cells, Pt.slots] at X_275 l_275 y_275 z_275 st_275 hQ_275
          subst l_275 y_275 z_275
          obtain ⟨Nq_275, e_275, rfl⟩ := hQ_275
          replace Nf := Fr.app Nf Nq_275
          refine Win.go st_275 ?_
          clear st_275 Nq_275 X_274 e_274
          show Win p.tables e below _ (T_275.setTop (mkF m 247 #[.val (.long q0), .second, .val (.long q1), .second, .val (.int p4), .val (.int p5), .val (.int nu0), .val (.int nu1), .val (.int nu2), .val (.int nu3), .val (.int (1 : Int32)), .val (.ref bl), .val (.long m0), .second, .unset, .unset, .unset, .unset, .unset] [(.long (0 : Int64)), (.long (z10 ||| (0 : Int64)))]))
          refine s_lor (pc' := 248) X_275.here hx (hb hby at_247) rfl ?_
          refine s_iload (pc' := 250) X_275.here hx (hb hby at_248) rfl rfl ?_
          refine s_iconst (pc' := 251) (z := (1 : Int32)) X_275.here hx (hb hby at_250) rfl rfl ?_
          refine s_iload (pc' := 253) X_275.here hx (hb hby at_251) rfl rfl ?_
          refine s_iconst (pc' := 254) (z := (3 : Int32)) X_275.here hx (hb hby at_253) rfl rfl ?_
          refine s_icmpYes (pc' := 261) X_275.here hx (hb hby at_254) (fltI (x := (3 : Int32)) (y := (1 : Int32)) (by decide)).2.2.2 (by decide) (by decide) ?_
          refine s_iconst (pc' := 262) (z := (0 : Int32)) X_275.here hx (hb hby at_261) rfl rfl ?_
          obtain ⟨_, _, ⟨T_276, L_276, k_276, n_276⟩, -, X_276, ⟨Lc_276, hQ_276, l_276, y_276, z_276⟩, st_276⟩ := Jvm.LawKit.callS X_275 hx (y := (⟨"com/example/faithful_deputy/faithfuldeputy/BitsKeepOnlyPinLaw", "bitIn", "(IIZ)J"⟩ : MethodName)) hown (mvT hZ (hw _ (List.mem_of_getElem? (i := 6) rfl))) (mvT hZ (hw _ (List.mem_of_getElem? (i := 7) rfl))) (mvT hZ (hw _ (List.mem_of_getElem? (i := 3) rfl))) (mvT hZ (hw _ (List.mem_of_getElem? (i := 8) rfl))) (by decide) (backOf (W := 2) (rm2_1_0 l Z a0 hw [] nu3 h_268 n0 Zs ) hZ (hw _ (List.mem_of_getElem? (i := 8) rfl)) (hw _ (List.mem_of_getElem? (i := 3) rfl)) (by decide) (by decide)) (g := (mkF m 262 #[.val (.long q0), .second, .val (.long q1), .second, .val (.int p4), .val (.int p5), .val (.int nu0), .val (.int nu1), .val (.int nu2), .val (.int nu3), .val (.int (1 : Int32)), .val (.ref bl), .val (.long m0), .second, .unset, .unset, .unset, .unset, .unset] [(.int (0 : Int32)), (.int (1 : Int32)), (.int nu3), (.long ((z10 ||| (0 : Int64)) ||| (0 : Int64)))])) rfl (by rw [hml]; rfl) (argsL := [(.int nu3), (.int (1 : Int32)), (.int (0 : Int32))]) (rest := [(.long ((z10 ||| (0 : Int64)) ||| (0 : Int64)))]) (lenOf pd_1 rfl) rfl (by show 2 * 0 + _ ≤ _; exact Nat.le_of_eq rfl) (hb hby at_262) (fun _ _ => ⟨rfl, e_275, (by decide : 1 + 0 ≤ _), (by decide : 1 + 0 ≤ _)⟩)
          dsimp only [Pt.U, Pt.locs, Pt.cells, Pt.slots] at X_276 l_276 y_276 z_276 st_276 hQ_276
          subst l_276 y_276 z_276
          obtain ⟨Nq_276, e_276, rfl⟩ := hQ_276
          replace Nf := Fr.app Nf Nq_276
          refine Win.go st_276 ?_
          clear st_276 Nq_276 X_275 e_275
          show Win p.tables e below _ (T_276.setTop (mkF m 265 #[.val (.long q0), .second, .val (.long q1), .second, .val (.int p4), .val (.int p5), .val (.int nu0), .val (.int nu1), .val (.int nu2), .val (.int nu3), .val (.int (1 : Int32)), .val (.ref bl), .val (.long m0), .second, .unset, .unset, .unset, .unset, .unset] [(.long (0 : Int64)), (.long ((z10 ||| (0 : Int64)) ||| (0 : Int64)))]))
          refine s_lor (pc' := 266) X_276.here hx (hb hby at_265) rfl ?_
          refine s_lstore (pc' := 268) (l' := #[.val (.long q0), .second, .val (.long q1), .second, .val (.int p4), .val (.int p5), .val (.int nu0), .val (.int nu1), .val (.int nu2), .val (.int nu3), .val (.int (1 : Int32)), .val (.ref bl), .val (.long m0), .second, .val (.long (((z10 ||| (0 : Int64)) ||| (0 : Int64)) ||| (0 : Int64))), .second, .unset, .unset, .unset]) X_276.here hx (hb hby at_266) rfl rfl ?_
          generalize hm1 : (((z10 ||| (0 : Int64)) ||| (0 : Int64)) ||| (0 : Int64)) = m1
          show Win p.tables e below _ (T_276.setTop (mkF m 268 #[.val (.long q0), .second, .val (.long q1), .second, .val (.int p4), .val (.int p5), .val (.int nu0), .val (.int nu1), .val (.int nu2), .val (.int nu3), .val (.int (1 : Int32)), .val (.ref bl), .val (.long m0), .second, .val (.long m1), .second, .unset, .unset, .unset] []))
          refine s_iconst (pc' := 269) (z := (2 : Int32)) X_276.here hx (hb hby at_268) rfl rfl ?_
          obtain ⟨T_277, h_277, k_277, X_277, e_277, Ex_277, A_277, EA_277, st_277⟩ := newPE X_276 hx hZ (hw _ (List.mem_of_getElem? (i := 9) rfl)) e_276 (g := (mkF m 269 #[.val (.long q0), .second, .val (.long q1), .second, .val (.int p4), .val (.int p5), .val (.int nu0), .val (.int nu1), .val (.int nu2), .val (.int nu3), .val (.int (1 : Int32)), .val (.ref bl), .val (.long m0), .second, .val (.long m1), .second, .unset, .unset, .unset] [(.int (2 : Int32))])) rfl (hb hby at_269) rfl (by decide) (cap := 2) (by decide) (by decide) (by decide) (by decide) (ad := "[J") (by decide)
          obtain ⟨b_277, g_277⟩ : ∃ z, z = h_268.size := ⟨_, rfl⟩
          have ne_bl_b_277 : bl ≠ b_277 := Nat.ne_of_lt (Nat.lt_of_lt_of_le lt_bl (Nat.le_of_eq g_277.symm))
          have g_b_277 : n0 ≤ b_277 := Nat.le_trans Zs (Nat.le_of_eq g_277.symm)
          rw [← g_277] at A_277 EA_277 st_277
          replace V_bl := V_bl.ext Ex_277
          replace lt_bl := Nat.lt_of_lt_of_le lt_bl Ex_277.1
          replace Zs := Nat.le_trans Zs Ex_277.1
          have V_b_277 : Arv Z h_277 b_277 k_277 .long (2 : Int32) [(.long (0 : Int64)), (.long (0 : Int64))] (.long (0 : Int64)) := (Arv.new A_277 (by decide)).pad (pad_rep [] (.long (0 : Int64)) 2)
          have lt_b_277 := V_b_277.lt
          have E_b_277 := EA_277
          refine Win.go st_277 ?_
          clear st_277 Ex_277 A_277 EA_277 g_277 X_276 e_276
          show Win p.tables e below _ (T_277.setTop (mkF m 271 #[.val (.long q0), .second, .val (.long q1), .second, .val (.int p4), .val (.int p5), .val (.int nu0), .val (.int nu1), .val (.int nu2), .val (.int nu3), .val (.int (1 : Int32)), .val (.ref bl), .val (.long m0), .second, .val (.long m1), .second, .unset, .unset, .unset] [(.ref b_277)]))
          refine s_dup (pc' := 272) X_277.here hx (hb hby at_271) rfl rfl ?_
          refine s_iconst (pc' := 273) (z := (0 : Int32)) X_277.here hx (hb hby at_272) rfl rfl ?_
          refine s_lloadN (pc' := 274) X_277.here hx (hb hby at_273) rfl rfl ?_
          obtain ⟨cl_278, Ar_278, q_278, S_278, N_278, H_278, G_278⟩ := V_b_277
          obtain ⟨T_278, h_278, X_278, e_278, W_278, st_278⟩ := stJ X_277 hx hZ e_277 Ar_278 (j := (0 : Int32)) (inb_of S_278 ⟨by decide, by decide⟩) (g := (mkF m 274 #[.val (.long q0), .second, .val (.long q1), .second, .val (.int p4), .val (.int p5), .val (.int nu0), .val (.int nu1), .val (.int nu2), .val (.int nu3), .val (.int (1 : Int32)), .val (.ref bl), .val (.long m0), .second, .val (.long m1), .second, .unset, .unset, .unset] [(.long q0), (.int (0 : Int32)), (.ref b_277), (.ref b_277)])) rfl rfl (hb hby at_274)
          have V_278 := Arv.set Ar_278 q_278 S_278 N_278 H_278 G_278 rfl W_278 0 rfl (Nat.le_of_ble_eq_true rfl)
          replace V_bl := V_bl.other W_278 ne_bl_b_277
          replace E_b_277 := E_b_277.wr W_278
          replace lt_bl := Nat.lt_of_lt_of_le lt_bl (Keep.of_wr W_278).1
          replace lt_b_277 := Nat.lt_of_lt_of_le lt_b_277 (Keep.of_wr W_278).1
          replace Zs := Nat.le_trans Zs (Keep.of_wr W_278).1
          replace V_b_277 : Arv Z h_278 b_277 k_277 .long (2 : Int32) [(.long q0), (.long (0 : Int64))] (.long (0 : Int64)) := V_278
          replace Nf := Fr.snoc X_278 Nf g_b_277
          refine Win.go st_278 ?_
          clear st_278 W_278 V_278 Ar_278 q_278 S_278 N_278 H_278 G_278 X_277 e_277
          show Win p.tables e below _ (T_278.setTop (mkF m 275 #[.val (.long q0), .second, .val (.long q1), .second, .val (.int p4), .val (.int p5), .val (.int nu0), .val (.int nu1), .val (.int nu2), .val (.int nu3), .val (.int (1 : Int32)), .val (.ref bl), .val (.long m0), .second, .val (.long m1), .second, .unset, .unset, .unset] [(.ref b_277)]))
          refine s_dup (pc' := 276) X_278.here hx (hb hby at_275) rfl rfl ?_
          refine s_iconst (pc' := 277) (z := (1 : Int32)) X_278.here hx (hb hby at_276) rfl rfl ?_
          refine s_lloadN (pc' := 278) X_278.here hx (hb hby at_277) rfl rfl ?_
          obtain ⟨cl_279, Ar_279, q_279, S_279, N_279, H_279, G_279⟩ := V_b_277
          obtain ⟨T_279, h_279, X_279, e_279, W_279, st_279⟩ := stJ X_278 hx hZ e_278 Ar_279 (j := (1 : Int32)) (inb_of S_279 ⟨by decide, by decide⟩) (g := (mkF m 278 #[.val (.long q0), .second, .val (.long q1), .second, .val (.int p4), .val (.int p5), .val (.int nu0), .val (.int nu1), .val (.int nu2), .val (.int nu3), .val (.int (1 : Int32)), .val (.ref bl), .val (.long m0), .second, .val (.long m1), .second, .unset, .unset, .unset] [(.long q1), (.int (1 : Int32)), (.ref b_277), (.ref b_277)])) rfl rfl (hb hby at_278)
          have V_279 := Arv.set Ar_279 q_279 S_279 N_279 H_279 G_279 rfl W_279 1 rfl (Nat.le_of_ble_eq_true rfl)
          replace V_bl := V_bl.other W_279 ne_bl_b_277
          replace E_b_277 := E_b_277.wr W_279
          replace lt_bl := Nat.lt_of_lt_of_le lt_bl (Keep.of_wr W_279).1
          replace lt_b_277 := Nat.lt_of_lt_of_le lt_b_277 (Keep.of_wr W_279).1
          replace Zs := Nat.le_trans Zs (Keep.of_wr W_279).1
          replace V_b_277 : Arv Z h_279 b_277 k_277 .long (2 : Int32) [(.long q0), (.long q1)] (.long (0 : Int64)) := V_279
          replace Nf := Fr.snoc X_279 Nf g_b_277
          refine Win.go st_279 ?_
          clear st_279 W_279 V_279 Ar_279 q_279 S_279 N_279 H_279 G_279 X_278 e_278
          show Win p.tables e below _ (T_279.setTop (mkF m 279 #[.val (.long q0), .second, .val (.long q1), .second, .val (.int p4), .val (.int p5), .val (.int nu0), .val (.int nu1), .val (.int nu2), .val (.int nu3), .val (.int (1 : Int32)), .val (.ref bl), .val (.long m0), .second, .val (.long m1), .second, .unset, .unset, .unset] [(.ref b_277)]))
          refine s_astore (pc' := 281) (l' := #[.val (.long q0), .second, .val (.long q1), .second, .val (.int p4), .val (.int p5), .val (.int nu0), .val (.int nu1), .val (.int nu2), .val (.int nu3), .val (.int (1 : Int32)), .val (.ref bl), .val (.long m0), .second, .val (.long m1), .second, .val (.ref b_277), .unset, .unset]) X_279.here hx (hb hby at_279) rfl rfl rfl ?_
          refine s_aload (pc' := 283) X_279.here hx (hb hby at_281) rfl rfl rfl ?_
          refine s_aload (pc' := 285) X_279.here hx (hb hby at_283) rfl rfl rfl ?_
          obtain ⟨_, _, ⟨T_280, L_280, k_280, n_280⟩, -, X_280, ⟨Lc_280, hQ_280, l_280, y_280, z_280⟩, st_280⟩ := Jvm.LawKit.callS X_279 hx (y := (⟨"com/example/faithful_deputy/faithfuldeputy/Bits", "keepOnly", "([J[I)Z"⟩ : MethodName)) hown (mvT hZ (hw _ (List.mem_of_getElem? (i := 10) rfl))) (mvT hZ (hw _ (List.mem_of_getElem? (i := 11) rfl))) (mvT hZ (hw _ (List.mem_of_getElem? (i := 12) rfl))) (mvT hZ (hw _ (List.mem_of_getElem? (i := 13) rfl))) (by decide) (backOf (W := 0) (rm3_1 l Z a0 hw [] b_277 bl k_277 q0 q1 kk_268 nu0 h_279 n0 Zs V_b_277 V_bl g_b_277 ne_bl_b_277 (by omega)) hZ (hw _ (List.mem_of_getElem? (i := 13) rfl)) (hw _ (List.mem_of_getElem? (i := 12) rfl)) (by decide) (by decide)) (g := (mkF m 285 #[.val (.long q0), .second, .val (.long q1), .second, .val (.int p4), .val (.int p5), .val (.int nu0), .val (.int nu1), .val (.int nu2), .val (.int nu3), .val (.int (1 : Int32)), .val (.ref bl), .val (.long m0), .second, .val (.long m1), .second, .val (.ref b_277), .unset, .unset] [(.ref bl), (.ref b_277)])) rfl (by rw [hml]; rfl) (argsL := [(.ref b_277), (.ref bl)]) (rest := []) (lenOf pd_2 rfl) rfl (by show 2 * 0 + _ ≤ _; exact Nat.le_of_eq rfl) (hb hby at_285) (fun _ _ => ⟨rfl, e_279, (by decide : 2 + 0 ≤ _), (by decide : 3 + 0 ≤ _)⟩)
          dsimp only [Pt.U, Pt.locs, Pt.cells, Pt.slots] at X_280 l_280 y_280 z_280 st_280 hQ_280
          subst l_280 y_280 z_280
          obtain ⟨h_280, e_280⟩ : ∃ z, T_280.heap = z := ⟨_, rfl⟩
          rw [e_280] at hQ_280
          obtain ⟨Nq_280, K_280, n_280_V_b_277, r, rfl, hr⟩ := hQ_280
          replace Nf := Fr.app Nf Nq_280
          replace V_bl := V_bl.keep K_280 (ninS ne_bl_b_277 nin0)
          clear V_b_277
          replace E_b_277 := E_b_277.keep K_280
          replace lt_bl := Nat.lt_of_lt_of_le lt_bl K_280.1
          replace lt_b_277 := Nat.lt_of_lt_of_le lt_b_277 K_280.1
          replace Zs := Nat.le_trans Zs K_280.1
          have V_b_277 := n_280_V_b_277
          refine Win.go st_280 ?_
          clear st_280 Nq_280 X_279 e_279 K_280
          show Win p.tables e below _ (T_280.setTop (mkF m 288 #[.val (.long q0), .second, .val (.long q1), .second, .val (.int p4), .val (.int p5), .val (.int nu0), .val (.int nu1), .val (.int nu2), .val (.int nu3), .val (.int (1 : Int32)), .val (.ref bl), .val (.long m0), .second, .val (.long m1), .second, .val (.ref b_277), .unset, .unset] [(.int r)]))
          refine s_istore (pc' := 290) (l' := #[.val (.long q0), .second, .val (.long q1), .second, .val (.int p4), .val (.int p5), .val (.int nu0), .val (.int nu1), .val (.int nu2), .val (.int nu3), .val (.int (1 : Int32)), .val (.ref bl), .val (.long m0), .second, .val (.long m1), .second, .val (.ref b_277), .val (.int r), .unset]) X_280.here hx (hb hby at_288) rfl rfl ?_
          have em0 : ((((bit0 nu0) ||| (0 : Int64)) ||| (0 : Int64)) ||| (0 : Int64)) = m0 := by rw [← hm0, hz00]
          have em1 : ((((bit1 nu0) ||| (0 : Int64)) ||| (0 : Int64)) ||| (0 : Int64)) = m1 := by rw [← hm1, hz10]
          rw [em0, em1] at V_b_277 hr
          rw [Int64.zero_or] at hr
          refine s_lloadN (pc' := 291) X_280.here hx (hb hby at_290) rfl rfl ?_
          refine s_lload (pc' := 293) X_280.here hx (hb hby at_291) rfl rfl ?_
          refine Win.go (fun _ k => X_280.ldc2Long hx hown (mvT hZ (hw _ (List.mem_of_getElem? (i := 15) rfl))) (g := (mkF m 293 #[.val (.long q0), .second, .val (.long q1), .second, .val (.int p4), .val (.int p5), .val (.int nu0), .val (.int nu1), .val (.int nu2), .val (.int nu3), .val (.int (1 : Int32)), .val (.ref bl), .val (.long m0), .second, .val (.long m1), .second, .val (.ref b_277), .val (.int r), .unset] [(.long m0), (.long q0)])) rfl (hb hby at_293) _ k) ?_
          show Win p.tables e below _ (T_280.setTop (mkF m 296 #[.val (.long q0), .second, .val (.long q1), .second, .val (.int p4), .val (.int p5), .val (.int nu0), .val (.int nu1), .val (.int nu2), .val (.int nu3), .val (.int (1 : Int32)), .val (.ref bl), .val (.long m0), .second, .val (.long m1), .second, .val (.ref b_277), .val (.int r), .unset] [(.long (-1 : Int64)), (.long m0), (.long q0)]))
          refine s_lxor (pc' := 297) X_280.here hx (hb hby at_296) rfl ?_
          refine s_land (pc' := 298) X_280.here hx (hb hby at_297) rfl ?_
          refine s_lloadN (pc' := 299) X_280.here hx (hb hby at_298) rfl rfl ?_
          refine s_lload (pc' := 301) X_280.here hx (hb hby at_299) rfl rfl ?_
          refine Win.go (fun _ k => X_280.ldc2Long hx hown (mvT hZ (hw _ (List.mem_of_getElem? (i := 15) rfl))) (g := (mkF m 301 #[.val (.long q0), .second, .val (.long q1), .second, .val (.int p4), .val (.int p5), .val (.int nu0), .val (.int nu1), .val (.int nu2), .val (.int nu3), .val (.int (1 : Int32)), .val (.ref bl), .val (.long m0), .second, .val (.long m1), .second, .val (.ref b_277), .val (.int r), .unset] [(.long m1), (.long q1), (.long (q0 &&& (m0 ^^^ (-1 : Int64))))])) rfl (hb hby at_301) _ k) ?_
          show Win p.tables e below _ (T_280.setTop (mkF m 304 #[.val (.long q0), .second, .val (.long q1), .second, .val (.int p4), .val (.int p5), .val (.int nu0), .val (.int nu1), .val (.int nu2), .val (.int nu3), .val (.int (1 : Int32)), .val (.ref bl), .val (.long m0), .second, .val (.long m1), .second, .val (.ref b_277), .val (.int r), .unset] [(.long (-1 : Int64)), (.long m1), (.long q1), (.long (q0 &&& (m0 ^^^ (-1 : Int64))))]))
          refine s_lxor (pc' := 305) X_280.here hx (hb hby at_304) rfl ?_
          refine s_land (pc' := 306) X_280.here hx (hb hby at_305) rfl ?_
          refine s_lor (pc' := 307) X_280.here hx (hb hby at_306) rfl ?_
          refine s_lconst (pc' := 308) (z := (0 : Int64)) X_280.here hx (hb hby at_307) rfl rfl ?_
          refine s_lcmp (pc' := 309) X_280.here hx (hb hby at_308) rfl ?_
          by_cases hc309 : (((q0 &&& (m0 ^^^ (-1 : Int64))) ||| (q1 &&& (m1 ^^^ (-1 : Int64))))).toInt = (0 : Int)
          · skip
            refine s_ifYes (pc' := 316) X_280.here hx (hb hby at_309) (teqL (x := ((q0 &&& (m0 ^^^ (-1 : Int64))) ||| (q1 &&& (m1 ^^^ (-1 : Int64))))) (y := (0 : Int64)) hc309).1 (by decide) (by decide) ?_
            refine s_iconst (pc' := 317) (z := (0 : Int32)) X_280.here hx (hb hby at_316) rfl rfl ?_
            refine s_istore (pc' := 319) (l' := #[.val (.long q0), .second, .val (.long q1), .second, .val (.int p4), .val (.int p5), .val (.int nu0), .val (.int nu1), .val (.int nu2), .val (.int nu3), .val (.int (1 : Int32)), .val (.ref bl), .val (.long m0), .second, .val (.long m1), .second, .val (.ref b_277), .val (.int r), .val (.int (0 : Int32))]) X_280.here hx (hb hby at_317) rfl rfl ?_
            refine s_iload (pc' := 321) X_280.here hx (hb hby at_319) rfl rfl ?_
            refine s_iload (pc' := 323) X_280.here hx (hb hby at_321) rfl rfl ?_
            by_cases hc323 : (r).toInt = (0 : Int)
            · skip
              refine s_icmpNo (pc' := 326) X_280.here hx (hb hby at_323) rfl (teqI (x := r) (y := (0 : Int32)) hc323).2 ?_
              refine s_aload (pc' := 328) X_280.here hx (hb hby at_326) rfl rfl rfl ?_
              refine s_iconst (pc' := 329) (z := (0 : Int32)) X_280.here hx (hb hby at_328) rfl rfl ?_
              obtain ⟨cl_281, Ar_281, q_281, S_281, N_281, H_281, G_281⟩ := id V_b_277
              have hi_281 : ¬ ((0 : Int32) < 0 ∨ cl_281.slots.size ≤ ((0 : Int32)).toNatClampNeg) := inb_of S_281 ⟨by decide, by decide⟩
              refine Win.go (fun _ k => X_280.laload hx (j := (0 : Int32)) (v := (.long (q0 &&& m0))) (by rw [e_280]; exact Ar_281.1) (State.isArrayOf_alike hZ.alike Ar_281.2.1) Ar_281.2.2 hi_281 (H_281.at hi_281 rfl) (g := (mkF m 329 #[.val (.long q0), .second, .val (.long q1), .second, .val (.int p4), .val (.int p5), .val (.int nu0), .val (.int nu1), .val (.int nu2), .val (.int nu3), .val (.int (1 : Int32)), .val (.ref bl), .val (.long m0), .second, .val (.long m1), .second, .val (.ref b_277), .val (.int r), .val (.int (0 : Int32))] [(.int (0 : Int32)), (.ref b_277)])) rfl rfl (hb hby at_329) _ k) ?_
              show Win p.tables e below _ (T_280.setTop (mkF m 330 #[.val (.long q0), .second, .val (.long q1), .second, .val (.int p4), .val (.int p5), .val (.int nu0), .val (.int nu1), .val (.int nu2), .val (.int nu3), .val (.int (1 : Int32)), .val (.ref bl), .val (.long m0), .second, .val (.long m1), .second, .val (.ref b_277), .val (.int r), .val (.int (0 : Int32))] [(.long (q0 &&& m0))]))
              clear Ar_281 q_281 S_281 N_281 H_281 G_281 hi_281
              refine s_lloadN (pc' := 331) X_280.here hx (hb hby at_330) rfl rfl ?_
              refine s_lload (pc' := 333) X_280.here hx (hb hby at_331) rfl rfl ?_
              refine s_land (pc' := 334) X_280.here hx (hb hby at_333) rfl ?_
              refine s_lcmp (pc' := 335) X_280.here hx (hb hby at_334) rfl ?_
              refine s_ifNo (pc' := 338) X_280.here hx (hb hby at_335) rfl (teqL (x := (q0 &&& m0)) (y := (q0 &&& m0)) (rfl)).2 ?_
              refine s_aload (pc' := 340) X_280.here hx (hb hby at_338) rfl rfl rfl ?_
              refine s_iconst (pc' := 341) (z := (1 : Int32)) X_280.here hx (hb hby at_340) rfl rfl ?_
              obtain ⟨cl_282, Ar_282, q_282, S_282, N_282, H_282, G_282⟩ := id V_b_277
              have hi_282 : ¬ ((1 : Int32) < 0 ∨ cl_282.slots.size ≤ ((1 : Int32)).toNatClampNeg) := inb_of S_282 ⟨by decide, by decide⟩
              refine Win.go (fun _ k => X_280.laload hx (j := (1 : Int32)) (v := (.long (q1 &&& m1))) (by rw [e_280]; exact Ar_282.1) (State.isArrayOf_alike hZ.alike Ar_282.2.1) Ar_282.2.2 hi_282 (H_282.at hi_282 rfl) (g := (mkF m 341 #[.val (.long q0), .second, .val (.long q1), .second, .val (.int p4), .val (.int p5), .val (.int nu0), .val (.int nu1), .val (.int nu2), .val (.int nu3), .val (.int (1 : Int32)), .val (.ref bl), .val (.long m0), .second, .val (.long m1), .second, .val (.ref b_277), .val (.int r), .val (.int (0 : Int32))] [(.int (1 : Int32)), (.ref b_277)])) rfl rfl (hb hby at_341) _ k) ?_
              show Win p.tables e below _ (T_280.setTop (mkF m 342 #[.val (.long q0), .second, .val (.long q1), .second, .val (.int p4), .val (.int p5), .val (.int nu0), .val (.int nu1), .val (.int nu2), .val (.int nu3), .val (.int (1 : Int32)), .val (.ref bl), .val (.long m0), .second, .val (.long m1), .second, .val (.ref b_277), .val (.int r), .val (.int (0 : Int32))] [(.long (q1 &&& m1))]))
              clear Ar_282 q_282 S_282 N_282 H_282 G_282 hi_282
              refine s_lloadN (pc' := 343) X_280.here hx (hb hby at_342) rfl rfl ?_
              refine s_lload (pc' := 345) X_280.here hx (hb hby at_343) rfl rfl ?_
              refine s_land (pc' := 346) X_280.here hx (hb hby at_345) rfl ?_
              refine s_lcmp (pc' := 347) X_280.here hx (hb hby at_346) rfl ?_
              refine s_ifNo (pc' := 350) X_280.here hx (hb hby at_347) rfl (teqL (x := (q1 &&& m1)) (y := (q1 &&& m1)) (rfl)).2 ?_
              refine s_iconst (pc' := 351) (z := (1 : Int32)) X_280.here hx (hb hby at_350) rfl rfl ?_
              refine s_goto (pc' := 355) X_280.here hx (hb hby at_351) (by decide) (by decide) ?_
              refine winN X_280 hx hlk e_280 (t := .boolean) Bd.returns (by simp) (hb hby at_355) (by decide) (by decide) (z' := 1) rfl ⟨Nf, rfl⟩
            · skip
              refine s_icmpYes (pc' := 354) X_280.here hx (hb hby at_323) (feqI (x := r) (y := (0 : Int32)) hc323).2 (by decide) (by decide) ?_
              refine s_iconst (pc' := 355) (z := (0 : Int32)) X_280.here hx (hb hby at_354) rfl rfl ?_
              exfalso
              omega
          · skip
            refine s_ifNo (pc' := 312) X_280.here hx (hb hby at_309) rfl (feqL (x := ((q0 &&& (m0 ^^^ (-1 : Int64))) ||| (q1 &&& (m1 ^^^ (-1 : Int64))))) (y := (0 : Int64)) hc309).1 ?_
            refine s_iconst (pc' := 313) (z := (1 : Int32)) X_280.here hx (hb hby at_312) rfl rfl ?_
            refine s_goto (pc' := 317) X_280.here hx (hb hby at_313) (by decide) (by decide) ?_
            refine s_istore (pc' := 319) (l' := #[.val (.long q0), .second, .val (.long q1), .second, .val (.int p4), .val (.int p5), .val (.int nu0), .val (.int nu1), .val (.int nu2), .val (.int nu3), .val (.int (1 : Int32)), .val (.ref bl), .val (.long m0), .second, .val (.long m1), .second, .val (.ref b_277), .val (.int r), .val (.int (1 : Int32))]) X_280.here hx (hb hby at_317) rfl rfl ?_
            refine s_iload (pc' := 321) X_280.here hx (hb hby at_319) rfl rfl ?_
            refine s_iload (pc' := 323) X_280.here hx (hb hby at_321) rfl rfl ?_
            by_cases hc323 : (r).toInt = (1 : Int)
            · skip
              refine s_icmpNo (pc' := 326) X_280.here hx (hb hby at_323) rfl (teqI (x := r) (y := (1 : Int32)) hc323).2 ?_
              refine s_aload (pc' := 328) X_280.here hx (hb hby at_326) rfl rfl rfl ?_
              refine s_iconst (pc' := 329) (z := (0 : Int32)) X_280.here hx (hb hby at_328) rfl rfl ?_
              obtain ⟨cl_283, Ar_283, q_283, S_283, N_283, H_283, G_283⟩ := id V_b_277
              have hi_283 : ¬ ((0 : Int32) < 0 ∨ cl_283.slots.size ≤ ((0 : Int32)).toNatClampNeg) := inb_of S_283 ⟨by decide, by decide⟩
              refine Win.go (fun _ k => X_280.laload hx (j := (0 : Int32)) (v := (.long (q0 &&& m0))) (by rw [e_280]; exact Ar_283.1) (State.isArrayOf_alike hZ.alike Ar_283.2.1) Ar_283.2.2 hi_283 (H_283.at hi_283 rfl) (g := (mkF m 329 #[.val (.long q0), .second, .val (.long q1), .second, .val (.int p4), .val (.int p5), .val (.int nu0), .val (.int nu1), .val (.int nu2), .val (.int nu3), .val (.int (1 : Int32)), .val (.ref bl), .val (.long m0), .second, .val (.long m1), .second, .val (.ref b_277), .val (.int r), .val (.int (1 : Int32))] [(.int (0 : Int32)), (.ref b_277)])) rfl rfl (hb hby at_329) _ k) ?_
              show Win p.tables e below _ (T_280.setTop (mkF m 330 #[.val (.long q0), .second, .val (.long q1), .second, .val (.int p4), .val (.int p5), .val (.int nu0), .val (.int nu1), .val (.int nu2), .val (.int nu3), .val (.int (1 : Int32)), .val (.ref bl), .val (.long m0), .second, .val (.long m1), .second, .val (.ref b_277), .val (.int r), .val (.int (1 : Int32))] [(.long (q0 &&& m0))]))
              clear Ar_283 q_283 S_283 N_283 H_283 G_283 hi_283
              refine s_lloadN (pc' := 331) X_280.here hx (hb hby at_330) rfl rfl ?_
              refine s_lload (pc' := 333) X_280.here hx (hb hby at_331) rfl rfl ?_
              refine s_land (pc' := 334) X_280.here hx (hb hby at_333) rfl ?_
              refine s_lcmp (pc' := 335) X_280.here hx (hb hby at_334) rfl ?_
              refine s_ifNo (pc' := 338) X_280.here hx (hb hby at_335) rfl (teqL (x := (q0 &&& m0)) (y := (q0 &&& m0)) (rfl)).2 ?_
              refine s_aload (pc' := 340) X_280.here hx (hb hby at_338) rfl rfl rfl ?_
              refine s_iconst (pc' := 341) (z := (1 : Int32)) X_280.here hx (hb hby at_340) rfl rfl ?_
              obtain ⟨cl_284, Ar_284, q_284, S_284, N_284, H_284, G_284⟩ := id V_b_277
              have hi_284 : ¬ ((1 : Int32) < 0 ∨ cl_284.slots.size ≤ ((1 : Int32)).toNatClampNeg) := inb_of S_284 ⟨by decide, by decide⟩
              refine Win.go (fun _ k => X_280.laload hx (j := (1 : Int32)) (v := (.long (q1 &&& m1))) (by rw [e_280]; exact Ar_284.1) (State.isArrayOf_alike hZ.alike Ar_284.2.1) Ar_284.2.2 hi_284 (H_284.at hi_284 rfl) (g := (mkF m 341 #[.val (.long q0), .second, .val (.long q1), .second, .val (.int p4), .val (.int p5), .val (.int nu0), .val (.int nu1), .val (.int nu2), .val (.int nu3), .val (.int (1 : Int32)), .val (.ref bl), .val (.long m0), .second, .val (.long m1), .second, .val (.ref b_277), .val (.int r), .val (.int (1 : Int32))] [(.int (1 : Int32)), (.ref b_277)])) rfl rfl (hb hby at_341) _ k) ?_
              show Win p.tables e below _ (T_280.setTop (mkF m 342 #[.val (.long q0), .second, .val (.long q1), .second, .val (.int p4), .val (.int p5), .val (.int nu0), .val (.int nu1), .val (.int nu2), .val (.int nu3), .val (.int (1 : Int32)), .val (.ref bl), .val (.long m0), .second, .val (.long m1), .second, .val (.ref b_277), .val (.int r), .val (.int (1 : Int32))] [(.long (q1 &&& m1))]))
              clear Ar_284 q_284 S_284 N_284 H_284 G_284 hi_284
              refine s_lloadN (pc' := 343) X_280.here hx (hb hby at_342) rfl rfl ?_
              refine s_lload (pc' := 345) X_280.here hx (hb hby at_343) rfl rfl ?_
              refine s_land (pc' := 346) X_280.here hx (hb hby at_345) rfl ?_
              refine s_lcmp (pc' := 347) X_280.here hx (hb hby at_346) rfl ?_
              refine s_ifNo (pc' := 350) X_280.here hx (hb hby at_347) rfl (teqL (x := (q1 &&& m1)) (y := (q1 &&& m1)) (rfl)).2 ?_
              refine s_iconst (pc' := 351) (z := (1 : Int32)) X_280.here hx (hb hby at_350) rfl rfl ?_
              refine s_goto (pc' := 355) X_280.here hx (hb hby at_351) (by decide) (by decide) ?_
              refine winN X_280 hx hlk e_280 (t := .boolean) Bd.returns (by simp) (hb hby at_355) (by decide) (by decide) (z' := 1) rfl ⟨Nf, rfl⟩
            · skip
              refine s_icmpYes (pc' := 354) X_280.here hx (hb hby at_323) (feqI (x := r) (y := (1 : Int32)) hc323).2 (by decide) (by decide) ?_
              refine s_iconst (pc' := 355) (z := (0 : Int32)) X_280.here hx (hb hby at_354) rfl rfl ?_
              exfalso
              omega
        · skip
          show Win p.tables e below _ (TJ109.setTop (mkF m 109 #[.val (.long q0), .second, .val (.long q1), .second, .val (.int p4), .val (.int p5), .val (.int nu0), .val (.int nu1), .val (.int nu2), .val (.int nu3), .val (.int (2 : Int32)), .unset, .unset, .unset, .unset, .unset, .unset, .unset, .unset] []))
          have hcl : ((2 : Int32)).toInt = 2 := rfl
          rw [hcl] at hJ109
          refine s_iload (pc' := 111) XJ109.here hx (hb hby at_109) rfl rfl ?_
          refine s_iload (pc' := 113) XJ109.here hx (hb hby at_111) rfl rfl ?_
          refine s_iload (pc' := 115) XJ109.here hx (hb hby at_113) rfl rfl ?_
          refine s_iload (pc' := 117) XJ109.here hx (hb hby at_115) rfl rfl ?_
          refine s_iload (pc' := 119) XJ109.here hx (hb hby at_117) rfl rfl ?_
          obtain ⟨_, _, ⟨T_285, L_285, k_285, n_285⟩, -, X_285, ⟨Lc_285, hQ_285, l_285, y_285, z_285⟩, st_285⟩ := Jvm.LawKit.callS XJ109 hx (y := (⟨"com/example/faithful_deputy/faithfuldeputy/BitsKeepOnlyPinLaw", "list", "(IIIII)[I"⟩ : MethodName)) hown (mvT hZ (hw _ (List.mem_of_getElem? (i := 1) rfl))) (mvT hZ (hw _ (List.mem_of_getElem? (i := 2) rfl))) (mvT hZ (hw _ (List.mem_of_getElem? (i := 3) rfl))) (mvT hZ (hw _ (List.mem_of_getElem? (i := 4) rfl))) (by decide) (backOf (W := 0) (rm1_2 l Z a0 hw [] nu0 nu1 nu2 nu3 h0 n0 Zs ) hZ (hw _ (List.mem_of_getElem? (i := 4) rfl)) (hw _ (List.mem_of_getElem? (i := 3) rfl)) (by decide) (by decide)) (g := (mkF m 119 #[.val (.long q0), .second, .val (.long q1), .second, .val (.int p4), .val (.int p5), .val (.int nu0), .val (.int nu1), .val (.int nu2), .val (.int nu3), .val (.int (2 : Int32)), .unset, .unset, .unset, .unset, .unset, .unset, .unset, .unset] [(.int nu3), (.int nu2), (.int nu1), (.int nu0), (.int (2 : Int32))])) rfl (by rw [hml]; rfl) (argsL := [(.int (2 : Int32)), (.int nu0), (.int nu1), (.int nu2), (.int nu3)]) (rest := []) (lenOf pd_0 rfl) rfl (by show 2 * 0 + _ ≤ _; exact Nat.le_of_eq rfl) (hb hby at_119) (fun _ _ => ⟨rfl, eJ109, (by decide : 0 + 1 ≤ _), (by decide : 0 + 2 ≤ _)⟩)
          dsimp only [Pt.U, Pt.locs, Pt.cells, Pt.slots] at X_285 l_285 y_285 z_285 st_285 hQ_285
          subst l_285 y_285 z_285
          obtain ⟨h_285, e_285⟩ : ∃ z, T_285.heap = z := ⟨_, rfl⟩
          rw [e_285] at hQ_285
          obtain ⟨Nq_285, K_285, bl, kk_285, rfl, g_bl, so_285, n_285_V_bl⟩ := hQ_285
          replace Nf := Fr.app Nf Nq_285
          replace Zs := Nat.le_trans Zs K_285.1
          have V_bl := n_285_V_bl
          have lt_bl := V_bl.lt
          refine Win.go st_285 ?_
          clear st_285 Nq_285 XJ109 eJ109 K_285
          show Win p.tables e below _ (T_285.setTop (mkF m 122 #[.val (.long q0), .second, .val (.long q1), .second, .val (.int p4), .val (.int p5), .val (.int nu0), .val (.int nu1), .val (.int nu2), .val (.int nu3), .val (.int (2 : Int32)), .unset, .unset, .unset, .unset, .unset, .unset, .unset, .unset] [(.ref bl)]))
          refine s_astore (pc' := 124) (l' := #[.val (.long q0), .second, .val (.long q1), .second, .val (.int p4), .val (.int p5), .val (.int nu0), .val (.int nu1), .val (.int nu2), .val (.int nu3), .val (.int (2 : Int32)), .val (.ref bl), .unset, .unset, .unset, .unset, .unset, .unset, .unset]) X_285.here hx (hb hby at_122) rfl rfl rfl ?_
          refine s_iload (pc' := 126) X_285.here hx (hb hby at_124) rfl rfl ?_
          refine s_iconst (pc' := 127) (z := (0 : Int32)) X_285.here hx (hb hby at_126) rfl rfl ?_
          refine s_iload (pc' := 129) X_285.here hx (hb hby at_127) rfl rfl ?_
          refine s_ifNo (pc' := 132) X_285.here hx (hb hby at_129) rfl ((if0 _ _).trans (tltI (x := (0 : Int32)) (y := (2 : Int32)) (by decide)).2.2.2) ?_
          refine s_iconst (pc' := 133) (z := (1 : Int32)) X_285.here hx (hb hby at_132) rfl rfl ?_
          refine s_goto (pc' := 137) X_285.here hx (hb hby at_133) (by decide) (by decide) ?_
          obtain ⟨_, _, ⟨T_286, L_286, k_286, n_286⟩, -, X_286, ⟨Lc_286, hQ_286, l_286, y_286, z_286⟩, st_286⟩ := Jvm.LawKit.callS X_285 hx (y := (⟨"com/example/faithful_deputy/faithfuldeputy/BitsKeepOnlyPinLaw", "bitIn", "(IIZ)J"⟩ : MethodName)) hown (mvT hZ (hw _ (List.mem_of_getElem? (i := 6) rfl))) (mvT hZ (hw _ (List.mem_of_getElem? (i := 7) rfl))) (mvT hZ (hw _ (List.mem_of_getElem? (i := 3) rfl))) (mvT hZ (hw _ (List.mem_of_getElem? (i := 8) rfl))) (by decide) (backOf (W := 0) (rm2_0_1 l Z a0 hw [] nu0 h_285 n0 Zs ) hZ (hw _ (List.mem_of_getElem? (i := 8) rfl)) (hw _ (List.mem_of_getElem? (i := 3) rfl)) (by decide) (by decide)) (g := (mkF m 137 #[.val (.long q0), .second, .val (.long q1), .second, .val (.int p4), .val (.int p5), .val (.int nu0), .val (.int nu1), .val (.int nu2), .val (.int nu3), .val (.int (2 : Int32)), .val (.ref bl), .unset, .unset, .unset, .unset, .unset, .unset, .unset] [(.int (1 : Int32)), (.int (0 : Int32)), (.int nu0)])) rfl (by rw [hml]; rfl) (argsL := [(.int nu0), (.int (0 : Int32)), (.int (1 : Int32))]) (rest := []) (lenOf pd_1 rfl) rfl (by show 2 * 0 + _ ≤ _; exact Nat.le_of_eq rfl) (hb hby at_137) (fun _ _ => ⟨rfl, e_285, (by decide : 1 + 0 ≤ _), (by decide : 2 + 0 ≤ _)⟩)
          dsimp only [Pt.U, Pt.locs, Pt.cells, Pt.slots] at X_286 l_286 y_286 z_286 st_286 hQ_286
          subst l_286 y_286 z_286
          obtain ⟨Nq_286, e_286, z00, rfl, hz00⟩ := hQ_286
          replace Nf := Fr.app Nf Nq_286
          refine Win.go st_286 ?_
          clear st_286 Nq_286 X_285 e_285
          show Win p.tables e below _ (T_286.setTop (mkF m 140 #[.val (.long q0), .second, .val (.long q1), .second, .val (.int p4), .val (.int p5), .val (.int nu0), .val (.int nu1), .val (.int nu2), .val (.int nu3), .val (.int (2 : Int32)), .val (.ref bl), .unset, .unset, .unset, .unset, .unset, .unset, .unset] [(.long z00)]))
          refine s_iload (pc' := 142) X_286.here hx (hb hby at_140) rfl rfl ?_
          refine s_iconst (pc' := 143) (z := (0 : Int32)) X_286.here hx (hb hby at_142) rfl rfl ?_
          refine s_iload (pc' := 145) X_286.here hx (hb hby at_143) rfl rfl ?_
          refine s_iconst (pc' := 146) (z := (1 : Int32)) X_286.here hx (hb hby at_145) rfl rfl ?_
          refine s_icmpNo (pc' := 149) X_286.here hx (hb hby at_146) rfl (tltI (x := (1 : Int32)) (y := (2 : Int32)) (by decide)).2.2.2 ?_
          refine s_iconst (pc' := 150) (z := (1 : Int32)) X_286.here hx (hb hby at_149) rfl rfl ?_
          refine s_goto (pc' := 154) X_286.here hx (hb hby at_150) (by decide) (by decide) ?_
          obtain ⟨_, _, ⟨T_287, L_287, k_287, n_287⟩, -, X_287, ⟨Lc_287, hQ_287, l_287, y_287, z_287⟩, st_287⟩ := Jvm.LawKit.callS X_286 hx (y := (⟨"com/example/faithful_deputy/faithfuldeputy/BitsKeepOnlyPinLaw", "bitIn", "(IIZ)J"⟩ : MethodName)) hown (mvT hZ (hw _ (List.mem_of_getElem? (i := 6) rfl))) (mvT hZ (hw _ (List.mem_of_getElem? (i := 7) rfl))) (mvT hZ (hw _ (List.mem_of_getElem? (i := 3) rfl))) (mvT hZ (hw _ (List.mem_of_getElem? (i := 8) rfl))) (by decide) (backOf (W := 2) (rm2_0_1 l Z a0 hw [] nu1 h_285 n0 Zs ) hZ (hw _ (List.mem_of_getElem? (i := 8) rfl)) (hw _ (List.mem_of_getElem? (i := 3) rfl)) (by decide) (by decide)) (g := (mkF m 154 #[.val (.long q0), .second, .val (.long q1), .second, .val (.int p4), .val (.int p5), .val (.int nu0), .val (.int nu1), .val (.int nu2), .val (.int nu3), .val (.int (2 : Int32)), .val (.ref bl), .unset, .unset, .unset, .unset, .unset, .unset, .unset] [(.int (1 : Int32)), (.int (0 : Int32)), (.int nu1), (.long z00)])) rfl (by rw [hml]; rfl) (argsL := [(.int nu1), (.int (0 : Int32)), (.int (1 : Int32))]) (rest := [(.long z00)]) (lenOf pd_1 rfl) rfl (by show 2 * 0 + _ ≤ _; exact Nat.le_of_eq rfl) (hb hby at_154) (fun _ _ => ⟨rfl, e_286, (by decide : 1 + 0 ≤ _), (by decide : 2 + 0 ≤ _)⟩)
          dsimp only [Pt.U, Pt.locs, Pt.cells, Pt.slots] at X_287 l_287 y_287 z_287 st_287 hQ_287
          subst l_287 y_287 z_287
          obtain ⟨Nq_287, e_287, z01, rfl, hz01⟩ := hQ_287
          replace Nf := Fr.app Nf Nq_287
          refine Win.go st_287 ?_
          clear st_287 Nq_287 X_286 e_286
          show Win p.tables e below _ (T_287.setTop (mkF m 157 #[.val (.long q0), .second, .val (.long q1), .second, .val (.int p4), .val (.int p5), .val (.int nu0), .val (.int nu1), .val (.int nu2), .val (.int nu3), .val (.int (2 : Int32)), .val (.ref bl), .unset, .unset, .unset, .unset, .unset, .unset, .unset] [(.long z01), (.long z00)]))
          refine s_lor (pc' := 158) X_287.here hx (hb hby at_157) rfl ?_
          refine s_iload (pc' := 160) X_287.here hx (hb hby at_158) rfl rfl ?_
          refine s_iconst (pc' := 161) (z := (0 : Int32)) X_287.here hx (hb hby at_160) rfl rfl ?_
          refine s_iload (pc' := 163) X_287.here hx (hb hby at_161) rfl rfl ?_
          refine s_iconst (pc' := 164) (z := (2 : Int32)) X_287.here hx (hb hby at_163) rfl rfl ?_
          refine s_icmpYes (pc' := 171) X_287.here hx (hb hby at_164) (fltI (x := (2 : Int32)) (y := (2 : Int32)) (by decide)).2.2.2 (by decide) (by decide) ?_
          refine s_iconst (pc' := 172) (z := (0 : Int32)) X_287.here hx (hb hby at_171) rfl rfl ?_
          obtain ⟨_, _, ⟨T_288, L_288, k_288, n_288⟩, -, X_288, ⟨Lc_288, hQ_288, l_288, y_288, z_288⟩, st_288⟩ := Jvm.LawKit.callS X_287 hx (y := (⟨"com/example/faithful_deputy/faithfuldeputy/BitsKeepOnlyPinLaw", "bitIn", "(IIZ)J"⟩ : MethodName)) hown (mvT hZ (hw _ (List.mem_of_getElem? (i := 6) rfl))) (mvT hZ (hw _ (List.mem_of_getElem? (i := 7) rfl))) (mvT hZ (hw _ (List.mem_of_getElem? (i := 3) rfl))) (mvT hZ (hw _ (List.mem_of_getElem? (i := 8) rfl))) (by decide) (backOf (W := 2) (rm2_0_0 l Z a0 hw [] nu2 h_285 n0 Zs ) hZ (hw _ (List.mem_of_getElem? (i := 8) rfl)) (hw _ (List.mem_of_getElem? (i := 3) rfl)) (by decide) (by decide)) (g := (mkF m 172 #[.val (.long q0), .second, .val (.long q1), .second, .val (.int p4), .val (.int p5), .val (.int nu0), .val (.int nu1), .val (.int nu2), .val (.int nu3), .val (.int (2 : Int32)), .val (.ref bl), .unset, .unset, .unset, .unset, .unset, .unset, .unset] [(.int (0 : Int32)), (.int (0 : Int32)), (.int nu2), (.long (z00 ||| z01))])) rfl (by rw [hml]; rfl) (argsL := [(.int nu2), (.int (0 : Int32)), (.int (0 : Int32))]) (rest := [(.long (z00 ||| z01))]) (lenOf pd_1 rfl) rfl (by show 2 * 0 + _ ≤ _; exact Nat.le_of_eq rfl) (hb hby at_172) (fun _ _ => ⟨rfl, e_287, (by decide : 1 + 0 ≤ _), (by decide : 2 + 0 ≤ _)⟩)
          dsimp only [Pt.U, Pt.locs, Pt.cells, Pt.slots] at X_288 l_288 y_288 z_288 st_288 hQ_288
          subst l_288 y_288 z_288
          obtain ⟨Nq_288, e_288, rfl⟩ := hQ_288
          replace Nf := Fr.app Nf Nq_288
          refine Win.go st_288 ?_
          clear st_288 Nq_288 X_287 e_287
          show Win p.tables e below _ (T_288.setTop (mkF m 175 #[.val (.long q0), .second, .val (.long q1), .second, .val (.int p4), .val (.int p5), .val (.int nu0), .val (.int nu1), .val (.int nu2), .val (.int nu3), .val (.int (2 : Int32)), .val (.ref bl), .unset, .unset, .unset, .unset, .unset, .unset, .unset] [(.long (0 : Int64)), (.long (z00 ||| z01))]))
          refine s_lor (pc' := 176) X_288.here hx (hb hby at_175) rfl ?_
          refine s_iload (pc' := 178) X_288.here hx (hb hby at_176) rfl rfl ?_
          refine s_iconst (pc' := 179) (z := (0 : Int32)) X_288.here hx (hb hby at_178) rfl rfl ?_
          refine s_iload (pc' := 181) X_288.here hx (hb hby at_179) rfl rfl ?_
          refine s_iconst (pc' := 182) (z := (3 : Int32)) X_288.here hx (hb hby at_181) rfl rfl ?_
          refine s_icmpYes (pc' := 189) X_288.here hx (hb hby at_182) (fltI (x := (3 : Int32)) (y := (2 : Int32)) (by decide)).2.2.2 (by decide) (by decide) ?_
          refine s_iconst (pc' := 190) (z := (0 : Int32)) X_288.here hx (hb hby at_189) rfl rfl ?_
          obtain ⟨_, _, ⟨T_289, L_289, k_289, n_289⟩, -, X_289, ⟨Lc_289, hQ_289, l_289, y_289, z_289⟩, st_289⟩ := Jvm.LawKit.callS X_288 hx (y := (⟨"com/example/faithful_deputy/faithfuldeputy/BitsKeepOnlyPinLaw", "bitIn", "(IIZ)J"⟩ : MethodName)) hown (mvT hZ (hw _ (List.mem_of_getElem? (i := 6) rfl))) (mvT hZ (hw _ (List.mem_of_getElem? (i := 7) rfl))) (mvT hZ (hw _ (List.mem_of_getElem? (i := 3) rfl))) (mvT hZ (hw _ (List.mem_of_getElem? (i := 8) rfl))) (by decide) (backOf (W := 2) (rm2_0_0 l Z a0 hw [] nu3 h_285 n0 Zs ) hZ (hw _ (List.mem_of_getElem? (i := 8) rfl)) (hw _ (List.mem_of_getElem? (i := 3) rfl)) (by decide) (by decide)) (g := (mkF m 190 #[.val (.long q0), .second, .val (.long q1), .second, .val (.int p4), .val (.int p5), .val (.int nu0), .val (.int nu1), .val (.int nu2), .val (.int nu3), .val (.int (2 : Int32)), .val (.ref bl), .unset, .unset, .unset, .unset, .unset, .unset, .unset] [(.int (0 : Int32)), (.int (0 : Int32)), (.int nu3), (.long ((z00 ||| z01) ||| (0 : Int64)))])) rfl (by rw [hml]; rfl) (argsL := [(.int nu3), (.int (0 : Int32)), (.int (0 : Int32))]) (rest := [(.long ((z00 ||| z01) ||| (0 : Int64)))]) (lenOf pd_1 rfl) rfl (by show 2 * 0 + _ ≤ _; exact Nat.le_of_eq rfl) (hb hby at_190) (fun _ _ => ⟨rfl, e_288, (by decide : 1 + 0 ≤ _), (by decide : 2 + 0 ≤ _)⟩)
          dsimp only [Pt.U, Pt.locs, Pt.cells, Pt.slots] at X_289 l_289 y_289 z_289 st_289 hQ_289
          subst l_289 y_289 z_289
          obtain ⟨Nq_289, e_289, rfl⟩ := hQ_289
          replace Nf := Fr.app Nf Nq_289
          refine Win.go st_289 ?_
          clear st_289 Nq_289 X_288 e_288
          show Win p.tables e below _ (T_289.setTop (mkF m 193 #[.val (.long q0), .second, .val (.long q1), .second, .val (.int p4), .val (.int p5), .val (.int nu0), .val (.int nu1), .val (.int nu2), .val (.int nu3), .val (.int (2 : Int32)), .val (.ref bl), .unset, .unset, .unset, .unset, .unset, .unset, .unset] [(.long (0 : Int64)), (.long ((z00 ||| z01) ||| (0 : Int64)))]))
          refine s_lor (pc' := 194) X_289.here hx (hb hby at_193) rfl ?_
          refine s_lstore (pc' := 196) (l' := #[.val (.long q0), .second, .val (.long q1), .second, .val (.int p4), .val (.int p5), .val (.int nu0), .val (.int nu1), .val (.int nu2), .val (.int nu3), .val (.int (2 : Int32)), .val (.ref bl), .val (.long (((z00 ||| z01) ||| (0 : Int64)) ||| (0 : Int64))), .second, .unset, .unset, .unset, .unset, .unset]) X_289.here hx (hb hby at_194) rfl rfl ?_
          generalize hm0 : (((z00 ||| z01) ||| (0 : Int64)) ||| (0 : Int64)) = m0
          show Win p.tables e below _ (T_289.setTop (mkF m 196 #[.val (.long q0), .second, .val (.long q1), .second, .val (.int p4), .val (.int p5), .val (.int nu0), .val (.int nu1), .val (.int nu2), .val (.int nu3), .val (.int (2 : Int32)), .val (.ref bl), .val (.long m0), .second, .unset, .unset, .unset, .unset, .unset] []))
          refine s_iload (pc' := 198) X_289.here hx (hb hby at_196) rfl rfl ?_
          refine s_iconst (pc' := 199) (z := (1 : Int32)) X_289.here hx (hb hby at_198) rfl rfl ?_
          refine s_iload (pc' := 201) X_289.here hx (hb hby at_199) rfl rfl ?_
          refine s_ifNo (pc' := 204) X_289.here hx (hb hby at_201) rfl ((if0 _ _).trans (tltI (x := (0 : Int32)) (y := (2 : Int32)) (by decide)).2.2.2) ?_
          refine s_iconst (pc' := 205) (z := (1 : Int32)) X_289.here hx (hb hby at_204) rfl rfl ?_
          refine s_goto (pc' := 209) X_289.here hx (hb hby at_205) (by decide) (by decide) ?_
          obtain ⟨_, _, ⟨T_290, L_290, k_290, n_290⟩, -, X_290, ⟨Lc_290, hQ_290, l_290, y_290, z_290⟩, st_290⟩ := Jvm.LawKit.callS X_289 hx (y := (⟨"com/example/faithful_deputy/faithfuldeputy/BitsKeepOnlyPinLaw", "bitIn", "(IIZ)J"⟩ : MethodName)) hown (mvT hZ (hw _ (List.mem_of_getElem? (i := 6) rfl))) (mvT hZ (hw _ (List.mem_of_getElem? (i := 7) rfl))) (mvT hZ (hw _ (List.mem_of_getElem? (i := 3) rfl))) (mvT hZ (hw _ (List.mem_of_getElem? (i := 8) rfl))) (by decide) (backOf (W := 0) (rm2_1_1 l Z a0 hw [] nu0 h_285 n0 Zs ) hZ (hw _ (List.mem_of_getElem? (i := 8) rfl)) (hw _ (List.mem_of_getElem? (i := 3) rfl)) (by decide) (by decide)) (g := (mkF m 209 #[.val (.long q0), .second, .val (.long q1), .second, .val (.int p4), .val (.int p5), .val (.int nu0), .val (.int nu1), .val (.int nu2), .val (.int nu3), .val (.int (2 : Int32)), .val (.ref bl), .val (.long m0), .second, .unset, .unset, .unset, .unset, .unset] [(.int (1 : Int32)), (.int (1 : Int32)), (.int nu0)])) rfl (by rw [hml]; rfl) (argsL := [(.int nu0), (.int (1 : Int32)), (.int (1 : Int32))]) (rest := []) (lenOf pd_1 rfl) rfl (by show 2 * 0 + _ ≤ _; exact Nat.le_of_eq rfl) (hb hby at_209) (fun _ _ => ⟨rfl, e_289, (by decide : 1 + 0 ≤ _), (by decide : 2 + 0 ≤ _)⟩)
          dsimp only [Pt.U, Pt.locs, Pt.cells, Pt.slots] at X_290 l_290 y_290 z_290 st_290 hQ_290
          subst l_290 y_290 z_290
          obtain ⟨Nq_290, e_290, z10, rfl, hz10⟩ := hQ_290
          replace Nf := Fr.app Nf Nq_290
          refine Win.go st_290 ?_
          clear st_290 Nq_290 X_289 e_289
          show Win p.tables e below _ (T_290.setTop (mkF m 212 #[.val (.long q0), .second, .val (.long q1), .second, .val (.int p4), .val (.int p5), .val (.int nu0), .val (.int nu1), .val (.int nu2), .val (.int nu3), .val (.int (2 : Int32)), .val (.ref bl), .val (.long m0), .second, .unset, .unset, .unset, .unset, .unset] [(.long z10)]))
          refine s_iload (pc' := 214) X_290.here hx (hb hby at_212) rfl rfl ?_
          refine s_iconst (pc' := 215) (z := (1 : Int32)) X_290.here hx (hb hby at_214) rfl rfl ?_
          refine s_iload (pc' := 217) X_290.here hx (hb hby at_215) rfl rfl ?_
          refine s_iconst (pc' := 218) (z := (1 : Int32)) X_290.here hx (hb hby at_217) rfl rfl ?_
          refine s_icmpNo (pc' := 221) X_290.here hx (hb hby at_218) rfl (tltI (x := (1 : Int32)) (y := (2 : Int32)) (by decide)).2.2.2 ?_
          refine s_iconst (pc' := 222) (z := (1 : Int32)) X_290.here hx (hb hby at_221) rfl rfl ?_
          refine s_goto (pc' := 226) X_290.here hx (hb hby at_222) (by decide) (by decide) ?_
          obtain ⟨_, _, ⟨T_291, L_291, k_291, n_291⟩, -, X_291, ⟨Lc_291, hQ_291, l_291, y_291, z_291⟩, st_291⟩ := Jvm.LawKit.callS X_290 hx (y := (⟨"com/example/faithful_deputy/faithfuldeputy/BitsKeepOnlyPinLaw", "bitIn", "(IIZ)J"⟩ : MethodName)) hown (mvT hZ (hw _ (List.mem_of_getElem? (i := 6) rfl))) (mvT hZ (hw _ (List.mem_of_getElem? (i := 7) rfl))) (mvT hZ (hw _ (List.mem_of_getElem? (i := 3) rfl))) (mvT hZ (hw _ (List.mem_of_getElem? (i := 8) rfl))) (by decide) (backOf (W := 2) (rm2_1_1 l Z a0 hw [] nu1 h_285 n0 Zs ) hZ (hw _ (List.mem_of_getElem? (i := 8) rfl)) (hw _ (List.mem_of_getElem? (i := 3) rfl)) (by decide) (by decide)) (g := (mkF m 226 #[.val (.long q0), .second, .val (.long q1), .second, .val (.int p4), .val (.int p5), .val (.int nu0), .val (.int nu1), .val (.int nu2), .val (.int nu3), .val (.int (2 : Int32)), .val (.ref bl), .val (.long m0), .second, .unset, .unset, .unset, .unset, .unset] [(.int (1 : Int32)), (.int (1 : Int32)), (.int nu1), (.long z10)])) rfl (by rw [hml]; rfl) (argsL := [(.int nu1), (.int (1 : Int32)), (.int (1 : Int32))]) (rest := [(.long z10)]) (lenOf pd_1 rfl) rfl (by show 2 * 0 + _ ≤ _; exact Nat.le_of_eq rfl) (hb hby at_226) (fun _ _ => ⟨rfl, e_290, (by decide : 1 + 0 ≤ _), (by decide : 2 + 0 ≤ _)⟩)
          dsimp only [Pt.U, Pt.locs, Pt.cells, Pt.slots] at X_291 l_291 y_291 z_291 st_291 hQ_291
          subst l_291 y_291 z_291
          obtain ⟨Nq_291, e_291, z11, rfl, hz11⟩ := hQ_291
          replace Nf := Fr.app Nf Nq_291
          refine Win.go st_291 ?_
          clear st_291 Nq_291 X_290 e_290
          show Win p.tables e below _ (T_291.setTop (mkF m 229 #[.val (.long q0), .second, .val (.long q1), .second, .val (.int p4), .val (.int p5), .val (.int nu0), .val (.int nu1), .val (.int nu2), .val (.int nu3), .val (.int (2 : Int32)), .val (.ref bl), .val (.long m0), .second, .unset, .unset, .unset, .unset, .unset] [(.long z11), (.long z10)]))
          refine s_lor (pc' := 230) X_291.here hx (hb hby at_229) rfl ?_
          refine s_iload (pc' := 232) X_291.here hx (hb hby at_230) rfl rfl ?_
          refine s_iconst (pc' := 233) (z := (1 : Int32)) X_291.here hx (hb hby at_232) rfl rfl ?_
          refine s_iload (pc' := 235) X_291.here hx (hb hby at_233) rfl rfl ?_
          refine s_iconst (pc' := 236) (z := (2 : Int32)) X_291.here hx (hb hby at_235) rfl rfl ?_
          refine s_icmpYes (pc' := 243) X_291.here hx (hb hby at_236) (fltI (x := (2 : Int32)) (y := (2 : Int32)) (by decide)).2.2.2 (by decide) (by decide) ?_
          refine s_iconst (pc' := 244) (z := (0 : Int32)) X_291.here hx (hb hby at_243) rfl rfl ?_
          obtain ⟨_, _, ⟨T_292, L_292, k_292, n_292⟩, -, X_292, ⟨Lc_292, hQ_292, l_292, y_292, z_292⟩, st_292⟩ := Jvm.LawKit.callS X_291 hx (y := (⟨"com/example/faithful_deputy/faithfuldeputy/BitsKeepOnlyPinLaw", "bitIn", "(IIZ)J"⟩ : MethodName)) hown (mvT hZ (hw _ (List.mem_of_getElem? (i := 6) rfl))) (mvT hZ (hw _ (List.mem_of_getElem? (i := 7) rfl))) (mvT hZ (hw _ (List.mem_of_getElem? (i := 3) rfl))) (mvT hZ (hw _ (List.mem_of_getElem? (i := 8) rfl))) (by decide) (backOf (W := 2) (rm2_1_0 l Z a0 hw [] nu2 h_285 n0 Zs ) hZ (hw _ (List.mem_of_getElem? (i := 8) rfl)) (hw _ (List.mem_of_getElem? (i := 3) rfl)) (by decide) (by decide)) (g := (mkF m 244 #[.val (.long q0), .second, .val (.long q1), .second, .val (.int p4), .val (.int p5), .val (.int nu0), .val (.int nu1), .val (.int nu2), .val (.int nu3), .val (.int (2 : Int32)), .val (.ref bl), .val (.long m0), .second, .unset, .unset, .unset, .unset, .unset] [(.int (0 : Int32)), (.int (1 : Int32)), (.int nu2), (.long (z10 ||| z11))])) rfl (by rw [hml]; rfl) (argsL := [(.int nu2), (.int (1 : Int32)), (.int (0 : Int32))]) (rest := [(.long (z10 ||| z11))]) (lenOf pd_1 rfl) rfl (by show 2 * 0 + _ ≤ _; exact Nat.le_of_eq rfl) (hb hby at_244) (fun _ _ => ⟨rfl, e_291, (by decide : 1 + 0 ≤ _), (by decide : 2 + 0 ≤ _)⟩)
          dsimp only [Pt.U, Pt.locs, Pt.cells, Pt.slots] at X_292 l_292 y_292 z_292 st_292 hQ_292
          subst l_292 y_292 z_292
          obtain ⟨Nq_292, e_292, rfl⟩ := hQ_292
          replace Nf := Fr.app Nf Nq_292
          refine Win.go st_292 ?_
          clear st_292 Nq_292 X_291 e_291
          show Win p.tables e below _ (T_292.setTop (mkF m 247 #[.val (.long q0), .second, .val (.long q1), .second, .val (.int p4), .val (.int p5), .val (.int nu0), .val (.int nu1), .val (.int nu2), .val (.int nu3), .val (.int (2 : Int32)), .val (.ref bl), .val (.long m0), .second, .unset, .unset, .unset, .unset, .unset] [(.long (0 : Int64)), (.long (z10 ||| z11))]))
          refine s_lor (pc' := 248) X_292.here hx (hb hby at_247) rfl ?_
          refine s_iload (pc' := 250) X_292.here hx (hb hby at_248) rfl rfl ?_
          refine s_iconst (pc' := 251) (z := (1 : Int32)) X_292.here hx (hb hby at_250) rfl rfl ?_
          refine s_iload (pc' := 253) X_292.here hx (hb hby at_251) rfl rfl ?_
          refine s_iconst (pc' := 254) (z := (3 : Int32)) X_292.here hx (hb hby at_253) rfl rfl ?_
          refine s_icmpYes (pc' := 261) X_292.here hx (hb hby at_254) (fltI (x := (3 : Int32)) (y := (2 : Int32)) (by decide)).2.2.2 (by decide) (by decide) ?_
          refine s_iconst (pc' := 262) (z := (0 : Int32)) X_292.here hx (hb hby at_261) rfl rfl ?_
          obtain ⟨_, _, ⟨T_293, L_293, k_293, n_293⟩, -, X_293, ⟨Lc_293, hQ_293, l_293, y_293, z_293⟩, st_293⟩ := Jvm.LawKit.callS X_292 hx (y := (⟨"com/example/faithful_deputy/faithfuldeputy/BitsKeepOnlyPinLaw", "bitIn", "(IIZ)J"⟩ : MethodName)) hown (mvT hZ (hw _ (List.mem_of_getElem? (i := 6) rfl))) (mvT hZ (hw _ (List.mem_of_getElem? (i := 7) rfl))) (mvT hZ (hw _ (List.mem_of_getElem? (i := 3) rfl))) (mvT hZ (hw _ (List.mem_of_getElem? (i := 8) rfl))) (by decide) (backOf (W := 2) (rm2_1_0 l Z a0 hw [] nu3 h_285 n0 Zs ) hZ (hw _ (List.mem_of_getElem? (i := 8) rfl)) (hw _ (List.mem_of_getElem? (i := 3) rfl)) (by decide) (by decide)) (g := (mkF m 262 #[.val (.long q0), .second, .val (.long q1), .second, .val (.int p4), .val (.int p5), .val (.int nu0), .val (.int nu1), .val (.int nu2), .val (.int nu3), .val (.int (2 : Int32)), .val (.ref bl), .val (.long m0), .second, .unset, .unset, .unset, .unset, .unset] [(.int (0 : Int32)), (.int (1 : Int32)), (.int nu3), (.long ((z10 ||| z11) ||| (0 : Int64)))])) rfl (by rw [hml]; rfl) (argsL := [(.int nu3), (.int (1 : Int32)), (.int (0 : Int32))]) (rest := [(.long ((z10 ||| z11) ||| (0 : Int64)))]) (lenOf pd_1 rfl) rfl (by show 2 * 0 + _ ≤ _; exact Nat.le_of_eq rfl) (hb hby at_262) (fun _ _ => ⟨rfl, e_292, (by decide : 1 + 0 ≤ _), (by decide : 2 + 0 ≤ _)⟩)
          dsimp only [Pt.U, Pt.locs, Pt.cells, Pt.slots] at X_293 l_293 y_293 z_293 st_293 hQ_293
          subst l_293 y_293 z_293
          obtain ⟨Nq_293, e_293, rfl⟩ := hQ_293
          replace Nf := Fr.app Nf Nq_293
          refine Win.go st_293 ?_
          clear st_293 Nq_293 X_292 e_292
          show Win p.tables e below _ (T_293.setTop (mkF m 265 #[.val (.long q0), .second, .val (.long q1), .second, .val (.int p4), .val (.int p5), .val (.int nu0), .val (.int nu1), .val (.int nu2), .val (.int nu3), .val (.int (2 : Int32)), .val (.ref bl), .val (.long m0), .second, .unset, .unset, .unset, .unset, .unset] [(.long (0 : Int64)), (.long ((z10 ||| z11) ||| (0 : Int64)))]))
          refine s_lor (pc' := 266) X_293.here hx (hb hby at_265) rfl ?_
          refine s_lstore (pc' := 268) (l' := #[.val (.long q0), .second, .val (.long q1), .second, .val (.int p4), .val (.int p5), .val (.int nu0), .val (.int nu1), .val (.int nu2), .val (.int nu3), .val (.int (2 : Int32)), .val (.ref bl), .val (.long m0), .second, .val (.long (((z10 ||| z11) ||| (0 : Int64)) ||| (0 : Int64))), .second, .unset, .unset, .unset]) X_293.here hx (hb hby at_266) rfl rfl ?_
          generalize hm1 : (((z10 ||| z11) ||| (0 : Int64)) ||| (0 : Int64)) = m1
          show Win p.tables e below _ (T_293.setTop (mkF m 268 #[.val (.long q0), .second, .val (.long q1), .second, .val (.int p4), .val (.int p5), .val (.int nu0), .val (.int nu1), .val (.int nu2), .val (.int nu3), .val (.int (2 : Int32)), .val (.ref bl), .val (.long m0), .second, .val (.long m1), .second, .unset, .unset, .unset] []))
          refine s_iconst (pc' := 269) (z := (2 : Int32)) X_293.here hx (hb hby at_268) rfl rfl ?_
          obtain ⟨T_294, h_294, k_294, X_294, e_294, Ex_294, A_294, EA_294, st_294⟩ := newPE X_293 hx hZ (hw _ (List.mem_of_getElem? (i := 9) rfl)) e_293 (g := (mkF m 269 #[.val (.long q0), .second, .val (.long q1), .second, .val (.int p4), .val (.int p5), .val (.int nu0), .val (.int nu1), .val (.int nu2), .val (.int nu3), .val (.int (2 : Int32)), .val (.ref bl), .val (.long m0), .second, .val (.long m1), .second, .unset, .unset, .unset] [(.int (2 : Int32))])) rfl (hb hby at_269) rfl (by decide) (cap := 2) (by decide) (by decide) (by decide) (by decide) (ad := "[J") (by decide)
          obtain ⟨b_294, g_294⟩ : ∃ z, z = h_285.size := ⟨_, rfl⟩
          have ne_bl_b_294 : bl ≠ b_294 := Nat.ne_of_lt (Nat.lt_of_lt_of_le lt_bl (Nat.le_of_eq g_294.symm))
          have g_b_294 : n0 ≤ b_294 := Nat.le_trans Zs (Nat.le_of_eq g_294.symm)
          rw [← g_294] at A_294 EA_294 st_294
          replace V_bl := V_bl.ext Ex_294
          replace lt_bl := Nat.lt_of_lt_of_le lt_bl Ex_294.1
          replace Zs := Nat.le_trans Zs Ex_294.1
          have V_b_294 : Arv Z h_294 b_294 k_294 .long (2 : Int32) [(.long (0 : Int64)), (.long (0 : Int64))] (.long (0 : Int64)) := (Arv.new A_294 (by decide)).pad (pad_rep [] (.long (0 : Int64)) 2)
          have lt_b_294 := V_b_294.lt
          have E_b_294 := EA_294
          refine Win.go st_294 ?_
          clear st_294 Ex_294 A_294 EA_294 g_294 X_293 e_293
          show Win p.tables e below _ (T_294.setTop (mkF m 271 #[.val (.long q0), .second, .val (.long q1), .second, .val (.int p4), .val (.int p5), .val (.int nu0), .val (.int nu1), .val (.int nu2), .val (.int nu3), .val (.int (2 : Int32)), .val (.ref bl), .val (.long m0), .second, .val (.long m1), .second, .unset, .unset, .unset] [(.ref b_294)]))
          refine s_dup (pc' := 272) X_294.here hx (hb hby at_271) rfl rfl ?_
          refine s_iconst (pc' := 273) (z := (0 : Int32)) X_294.here hx (hb hby at_272) rfl rfl ?_
          refine s_lloadN (pc' := 274) X_294.here hx (hb hby at_273) rfl rfl ?_
          obtain ⟨cl_295, Ar_295, q_295, S_295, N_295, H_295, G_295⟩ := V_b_294
          obtain ⟨T_295, h_295, X_295, e_295, W_295, st_295⟩ := stJ X_294 hx hZ e_294 Ar_295 (j := (0 : Int32)) (inb_of S_295 ⟨by decide, by decide⟩) (g := (mkF m 274 #[.val (.long q0), .second, .val (.long q1), .second, .val (.int p4), .val (.int p5), .val (.int nu0), .val (.int nu1), .val (.int nu2), .val (.int nu3), .val (.int (2 : Int32)), .val (.ref bl), .val (.long m0), .second, .val (.long m1), .second, .unset, .unset, .unset] [(.long q0), (.int (0 : Int32)), (.ref b_294), (.ref b_294)])) rfl rfl (hb hby at_274)
          have V_295 := Arv.set Ar_295 q_295 S_295 N_295 H_295 G_295 rfl W_295 0 rfl (Nat.le_of_ble_eq_true rfl)
          replace V_bl := V_bl.other W_295 ne_bl_b_294
          replace E_b_294 := E_b_294.wr W_295
          replace lt_bl := Nat.lt_of_lt_of_le lt_bl (Keep.of_wr W_295).1
          replace lt_b_294 := Nat.lt_of_lt_of_le lt_b_294 (Keep.of_wr W_295).1
          replace Zs := Nat.le_trans Zs (Keep.of_wr W_295).1
          replace V_b_294 : Arv Z h_295 b_294 k_294 .long (2 : Int32) [(.long q0), (.long (0 : Int64))] (.long (0 : Int64)) := V_295
          replace Nf := Fr.snoc X_295 Nf g_b_294
          refine Win.go st_295 ?_
          clear st_295 W_295 V_295 Ar_295 q_295 S_295 N_295 H_295 G_295 X_294 e_294
          show Win p.tables e below _ (T_295.setTop (mkF m 275 #[.val (.long q0), .second, .val (.long q1), .second, .val (.int p4), .val (.int p5), .val (.int nu0), .val (.int nu1), .val (.int nu2), .val (.int nu3), .val (.int (2 : Int32)), .val (.ref bl), .val (.long m0), .second, .val (.long m1), .second, .unset, .unset, .unset] [(.ref b_294)]))
          refine s_dup (pc' := 276) X_295.here hx (hb hby at_275) rfl rfl ?_
          refine s_iconst (pc' := 277) (z := (1 : Int32)) X_295.here hx (hb hby at_276) rfl rfl ?_
          refine s_lloadN (pc' := 278) X_295.here hx (hb hby at_277) rfl rfl ?_
          obtain ⟨cl_296, Ar_296, q_296, S_296, N_296, H_296, G_296⟩ := V_b_294
          obtain ⟨T_296, h_296, X_296, e_296, W_296, st_296⟩ := stJ X_295 hx hZ e_295 Ar_296 (j := (1 : Int32)) (inb_of S_296 ⟨by decide, by decide⟩) (g := (mkF m 278 #[.val (.long q0), .second, .val (.long q1), .second, .val (.int p4), .val (.int p5), .val (.int nu0), .val (.int nu1), .val (.int nu2), .val (.int nu3), .val (.int (2 : Int32)), .val (.ref bl), .val (.long m0), .second, .val (.long m1), .second, .unset, .unset, .unset] [(.long q1), (.int (1 : Int32)), (.ref b_294), (.ref b_294)])) rfl rfl (hb hby at_278)
          have V_296 := Arv.set Ar_296 q_296 S_296 N_296 H_296 G_296 rfl W_296 1 rfl (Nat.le_of_ble_eq_true rfl)
          replace V_bl := V_bl.other W_296 ne_bl_b_294
          replace E_b_294 := E_b_294.wr W_296
          replace lt_bl := Nat.lt_of_lt_of_le lt_bl (Keep.of_wr W_296).1
          replace lt_b_294 := Nat.lt_of_lt_of_le lt_b_294 (Keep.of_wr W_296).1
          replace Zs := Nat.le_trans Zs (Keep.of_wr W_296).1
          replace V_b_294 : Arv Z h_296 b_294 k_294 .long (2 : Int32) [(.long q0), (.long q1)] (.long (0 : Int64)) := V_296
          replace Nf := Fr.snoc X_296 Nf g_b_294
          refine Win.go st_296 ?_
          clear st_296 W_296 V_296 Ar_296 q_296 S_296 N_296 H_296 G_296 X_295 e_295
          show Win p.tables e below _ (T_296.setTop (mkF m 279 #[.val (.long q0), .second, .val (.long q1), .second, .val (.int p4), .val (.int p5), .val (.int nu0), .val (.int nu1), .val (.int nu2), .val (.int nu3), .val (.int (2 : Int32)), .val (.ref bl), .val (.long m0), .second, .val (.long m1), .second, .unset, .unset, .unset] [(.ref b_294)]))
          refine s_astore (pc' := 281) (l' := #[.val (.long q0), .second, .val (.long q1), .second, .val (.int p4), .val (.int p5), .val (.int nu0), .val (.int nu1), .val (.int nu2), .val (.int nu3), .val (.int (2 : Int32)), .val (.ref bl), .val (.long m0), .second, .val (.long m1), .second, .val (.ref b_294), .unset, .unset]) X_296.here hx (hb hby at_279) rfl rfl rfl ?_
          refine s_aload (pc' := 283) X_296.here hx (hb hby at_281) rfl rfl rfl ?_
          refine s_aload (pc' := 285) X_296.here hx (hb hby at_283) rfl rfl rfl ?_
          obtain ⟨_, _, ⟨T_297, L_297, k_297, n_297⟩, -, X_297, ⟨Lc_297, hQ_297, l_297, y_297, z_297⟩, st_297⟩ := Jvm.LawKit.callS X_296 hx (y := (⟨"com/example/faithful_deputy/faithfuldeputy/Bits", "keepOnly", "([J[I)Z"⟩ : MethodName)) hown (mvT hZ (hw _ (List.mem_of_getElem? (i := 10) rfl))) (mvT hZ (hw _ (List.mem_of_getElem? (i := 11) rfl))) (mvT hZ (hw _ (List.mem_of_getElem? (i := 12) rfl))) (mvT hZ (hw _ (List.mem_of_getElem? (i := 13) rfl))) (by decide) (backOf (W := 0) (rm3_2 l Z a0 hw [] b_294 bl k_294 q0 q1 kk_285 nu0 nu1 h_296 n0 Zs V_b_294 V_bl g_b_294 ne_bl_b_294 (by omega)) hZ (hw _ (List.mem_of_getElem? (i := 13) rfl)) (hw _ (List.mem_of_getElem? (i := 12) rfl)) (by decide) (by decide)) (g := (mkF m 285 #[.val (.long q0), .second, .val (.long q1), .second, .val (.int p4), .val (.int p5), .val (.int nu0), .val (.int nu1), .val (.int nu2), .val (.int nu3), .val (.int (2 : Int32)), .val (.ref bl), .val (.long m0), .second, .val (.long m1), .second, .val (.ref b_294), .unset, .unset] [(.ref bl), (.ref b_294)])) rfl (by rw [hml]; rfl) (argsL := [(.ref b_294), (.ref bl)]) (rest := []) (lenOf pd_2 rfl) rfl (by show 2 * 0 + _ ≤ _; exact Nat.le_of_eq rfl) (hb hby at_285) (fun _ _ => ⟨rfl, e_296, (by decide : 2 + 0 ≤ _), (by decide : 4 + 0 ≤ _)⟩)
          dsimp only [Pt.U, Pt.locs, Pt.cells, Pt.slots] at X_297 l_297 y_297 z_297 st_297 hQ_297
          subst l_297 y_297 z_297
          obtain ⟨h_297, e_297⟩ : ∃ z, T_297.heap = z := ⟨_, rfl⟩
          rw [e_297] at hQ_297
          obtain ⟨Nq_297, K_297, n_297_V_b_294, r, rfl, hr⟩ := hQ_297
          replace Nf := Fr.app Nf Nq_297
          replace V_bl := V_bl.keep K_297 (ninS ne_bl_b_294 nin0)
          clear V_b_294
          replace E_b_294 := E_b_294.keep K_297
          replace lt_bl := Nat.lt_of_lt_of_le lt_bl K_297.1
          replace lt_b_294 := Nat.lt_of_lt_of_le lt_b_294 K_297.1
          replace Zs := Nat.le_trans Zs K_297.1
          have V_b_294 := n_297_V_b_294
          refine Win.go st_297 ?_
          clear st_297 Nq_297 X_296 e_296 K_297
          show Win p.tables e below _ (T_297.setTop (mkF m 288 #[.val (.long q0), .second, .val (.long q1), .second, .val (.int p4), .val (.int p5), .val (.int nu0), .val (.int nu1), .val (.int nu2), .val (.int nu3), .val (.int (2 : Int32)), .val (.ref bl), .val (.long m0), .second, .val (.long m1), .second, .val (.ref b_294), .unset, .unset] [(.int r)]))
          refine s_istore (pc' := 290) (l' := #[.val (.long q0), .second, .val (.long q1), .second, .val (.int p4), .val (.int p5), .val (.int nu0), .val (.int nu1), .val (.int nu2), .val (.int nu3), .val (.int (2 : Int32)), .val (.ref bl), .val (.long m0), .second, .val (.long m1), .second, .val (.ref b_294), .val (.int r), .unset]) X_297.here hx (hb hby at_288) rfl rfl ?_
          have em0 : ((((bit0 nu0) ||| (bit0 nu1)) ||| (0 : Int64)) ||| (0 : Int64)) = m0 := by rw [← hm0, hz00, hz01]
          have em1 : ((((bit1 nu0) ||| (bit1 nu1)) ||| (0 : Int64)) ||| (0 : Int64)) = m1 := by rw [← hm1, hz10, hz11]
          rw [em0, em1] at V_b_294 hr
          rw [Int64.zero_or] at hr
          refine s_lloadN (pc' := 291) X_297.here hx (hb hby at_290) rfl rfl ?_
          refine s_lload (pc' := 293) X_297.here hx (hb hby at_291) rfl rfl ?_
          refine Win.go (fun _ k => X_297.ldc2Long hx hown (mvT hZ (hw _ (List.mem_of_getElem? (i := 15) rfl))) (g := (mkF m 293 #[.val (.long q0), .second, .val (.long q1), .second, .val (.int p4), .val (.int p5), .val (.int nu0), .val (.int nu1), .val (.int nu2), .val (.int nu3), .val (.int (2 : Int32)), .val (.ref bl), .val (.long m0), .second, .val (.long m1), .second, .val (.ref b_294), .val (.int r), .unset] [(.long m0), (.long q0)])) rfl (hb hby at_293) _ k) ?_
          show Win p.tables e below _ (T_297.setTop (mkF m 296 #[.val (.long q0), .second, .val (.long q1), .second, .val (.int p4), .val (.int p5), .val (.int nu0), .val (.int nu1), .val (.int nu2), .val (.int nu3), .val (.int (2 : Int32)), .val (.ref bl), .val (.long m0), .second, .val (.long m1), .second, .val (.ref b_294), .val (.int r), .unset] [(.long (-1 : Int64)), (.long m0), (.long q0)]))
          refine s_lxor (pc' := 297) X_297.here hx (hb hby at_296) rfl ?_
          refine s_land (pc' := 298) X_297.here hx (hb hby at_297) rfl ?_
          refine s_lloadN (pc' := 299) X_297.here hx (hb hby at_298) rfl rfl ?_
          refine s_lload (pc' := 301) X_297.here hx (hb hby at_299) rfl rfl ?_
          refine Win.go (fun _ k => X_297.ldc2Long hx hown (mvT hZ (hw _ (List.mem_of_getElem? (i := 15) rfl))) (g := (mkF m 301 #[.val (.long q0), .second, .val (.long q1), .second, .val (.int p4), .val (.int p5), .val (.int nu0), .val (.int nu1), .val (.int nu2), .val (.int nu3), .val (.int (2 : Int32)), .val (.ref bl), .val (.long m0), .second, .val (.long m1), .second, .val (.ref b_294), .val (.int r), .unset] [(.long m1), (.long q1), (.long (q0 &&& (m0 ^^^ (-1 : Int64))))])) rfl (hb hby at_301) _ k) ?_
          show Win p.tables e below _ (T_297.setTop (mkF m 304 #[.val (.long q0), .second, .val (.long q1), .second, .val (.int p4), .val (.int p5), .val (.int nu0), .val (.int nu1), .val (.int nu2), .val (.int nu3), .val (.int (2 : Int32)), .val (.ref bl), .val (.long m0), .second, .val (.long m1), .second, .val (.ref b_294), .val (.int r), .unset] [(.long (-1 : Int64)), (.long m1), (.long q1), (.long (q0 &&& (m0 ^^^ (-1 : Int64))))]))
          refine s_lxor (pc' := 305) X_297.here hx (hb hby at_304) rfl ?_
          refine s_land (pc' := 306) X_297.here hx (hb hby at_305) rfl ?_
          refine s_lor (pc' := 307) X_297.here hx (hb hby at_306) rfl ?_
          refine s_lconst (pc' := 308) (z := (0 : Int64)) X_297.here hx (hb hby at_307) rfl rfl ?_
          refine s_lcmp (pc' := 309) X_297.here hx (hb hby at_308) rfl ?_
          by_cases hc309 : (((q0 &&& (m0 ^^^ (-1 : Int64))) ||| (q1 &&& (m1 ^^^ (-1 : Int64))))).toInt = (0 : Int)
          · skip
            refine s_ifYes (pc' := 316) X_297.here hx (hb hby at_309) (teqL (x := ((q0 &&& (m0 ^^^ (-1 : Int64))) ||| (q1 &&& (m1 ^^^ (-1 : Int64))))) (y := (0 : Int64)) hc309).1 (by decide) (by decide) ?_
            refine s_iconst (pc' := 317) (z := (0 : Int32)) X_297.here hx (hb hby at_316) rfl rfl ?_
            refine s_istore (pc' := 319) (l' := #[.val (.long q0), .second, .val (.long q1), .second, .val (.int p4), .val (.int p5), .val (.int nu0), .val (.int nu1), .val (.int nu2), .val (.int nu3), .val (.int (2 : Int32)), .val (.ref bl), .val (.long m0), .second, .val (.long m1), .second, .val (.ref b_294), .val (.int r), .val (.int (0 : Int32))]) X_297.here hx (hb hby at_317) rfl rfl ?_
            refine s_iload (pc' := 321) X_297.here hx (hb hby at_319) rfl rfl ?_
            refine s_iload (pc' := 323) X_297.here hx (hb hby at_321) rfl rfl ?_
            by_cases hc323 : (r).toInt = (0 : Int)
            · skip
              refine s_icmpNo (pc' := 326) X_297.here hx (hb hby at_323) rfl (teqI (x := r) (y := (0 : Int32)) hc323).2 ?_
              refine s_aload (pc' := 328) X_297.here hx (hb hby at_326) rfl rfl rfl ?_
              refine s_iconst (pc' := 329) (z := (0 : Int32)) X_297.here hx (hb hby at_328) rfl rfl ?_
              obtain ⟨cl_298, Ar_298, q_298, S_298, N_298, H_298, G_298⟩ := id V_b_294
              have hi_298 : ¬ ((0 : Int32) < 0 ∨ cl_298.slots.size ≤ ((0 : Int32)).toNatClampNeg) := inb_of S_298 ⟨by decide, by decide⟩
              refine Win.go (fun _ k => X_297.laload hx (j := (0 : Int32)) (v := (.long (q0 &&& m0))) (by rw [e_297]; exact Ar_298.1) (State.isArrayOf_alike hZ.alike Ar_298.2.1) Ar_298.2.2 hi_298 (H_298.at hi_298 rfl) (g := (mkF m 329 #[.val (.long q0), .second, .val (.long q1), .second, .val (.int p4), .val (.int p5), .val (.int nu0), .val (.int nu1), .val (.int nu2), .val (.int nu3), .val (.int (2 : Int32)), .val (.ref bl), .val (.long m0), .second, .val (.long m1), .second, .val (.ref b_294), .val (.int r), .val (.int (0 : Int32))] [(.int (0 : Int32)), (.ref b_294)])) rfl rfl (hb hby at_329) _ k) ?_
              show Win p.tables e below _ (T_297.setTop (mkF m 330 #[.val (.long q0), .second, .val (.long q1), .second, .val (.int p4), .val (.int p5), .val (.int nu0), .val (.int nu1), .val (.int nu2), .val (.int nu3), .val (.int (2 : Int32)), .val (.ref bl), .val (.long m0), .second, .val (.long m1), .second, .val (.ref b_294), .val (.int r), .val (.int (0 : Int32))] [(.long (q0 &&& m0))]))
              clear Ar_298 q_298 S_298 N_298 H_298 G_298 hi_298
              refine s_lloadN (pc' := 331) X_297.here hx (hb hby at_330) rfl rfl ?_
              refine s_lload (pc' := 333) X_297.here hx (hb hby at_331) rfl rfl ?_
              refine s_land (pc' := 334) X_297.here hx (hb hby at_333) rfl ?_
              refine s_lcmp (pc' := 335) X_297.here hx (hb hby at_334) rfl ?_
              refine s_ifNo (pc' := 338) X_297.here hx (hb hby at_335) rfl (teqL (x := (q0 &&& m0)) (y := (q0 &&& m0)) (rfl)).2 ?_
              refine s_aload (pc' := 340) X_297.here hx (hb hby at_338) rfl rfl rfl ?_
              refine s_iconst (pc' := 341) (z := (1 : Int32)) X_297.here hx (hb hby at_340) rfl rfl ?_
              obtain ⟨cl_299, Ar_299, q_299, S_299, N_299, H_299, G_299⟩ := id V_b_294
              have hi_299 : ¬ ((1 : Int32) < 0 ∨ cl_299.slots.size ≤ ((1 : Int32)).toNatClampNeg) := inb_of S_299 ⟨by decide, by decide⟩
              refine Win.go (fun _ k => X_297.laload hx (j := (1 : Int32)) (v := (.long (q1 &&& m1))) (by rw [e_297]; exact Ar_299.1) (State.isArrayOf_alike hZ.alike Ar_299.2.1) Ar_299.2.2 hi_299 (H_299.at hi_299 rfl) (g := (mkF m 341 #[.val (.long q0), .second, .val (.long q1), .second, .val (.int p4), .val (.int p5), .val (.int nu0), .val (.int nu1), .val (.int nu2), .val (.int nu3), .val (.int (2 : Int32)), .val (.ref bl), .val (.long m0), .second, .val (.long m1), .second, .val (.ref b_294), .val (.int r), .val (.int (0 : Int32))] [(.int (1 : Int32)), (.ref b_294)])) rfl rfl (hb hby at_341) _ k) ?_
              show Win p.tables e below _ (T_297.setTop (mkF m 342 #[.val (.long q0), .second, .val (.long q1), .second, .val (.int p4), .val (.int p5), .val (.int nu0), .val (.int nu1), .val (.int nu2), .val (.int nu3), .val (.int (2 : Int32)), .val (.ref bl), .val (.long m0), .second, .val (.long m1), .second, .val (.ref b_294), .val (.int r), .val (.int (0 : Int32))] [(.long (q1 &&& m1))]))
              clear Ar_299 q_299 S_299 N_299 H_299 G_299 hi_299
              refine s_lloadN (pc' := 343) X_297.here hx (hb hby at_342) rfl rfl ?_
              refine s_lload (pc' := 345) X_297.here hx (hb hby at_343) rfl rfl ?_
              refine s_land (pc' := 346) X_297.here hx (hb hby at_345) rfl ?_
              refine s_lcmp (pc' := 347) X_297.here hx (hb hby at_346) rfl ?_
              refine s_ifNo (pc' := 350) X_297.here hx (hb hby at_347) rfl (teqL (x := (q1 &&& m1)) (y := (q1 &&& m1)) (rfl)).2 ?_
              refine s_iconst (pc' := 351) (z := (1 : Int32)) X_297.here hx (hb hby at_350) rfl rfl ?_
              refine s_goto (pc' := 355) X_297.here hx (hb hby at_351) (by decide) (by decide) ?_
              refine winN X_297 hx hlk e_297 (t := .boolean) Bd.returns (by simp) (hb hby at_355) (by decide) (by decide) (z' := 1) rfl ⟨Nf, rfl⟩
            · skip
              refine s_icmpYes (pc' := 354) X_297.here hx (hb hby at_323) (feqI (x := r) (y := (0 : Int32)) hc323).2 (by decide) (by decide) ?_
              refine s_iconst (pc' := 355) (z := (0 : Int32)) X_297.here hx (hb hby at_354) rfl rfl ?_
              exfalso
              omega
          · skip
            refine s_ifNo (pc' := 312) X_297.here hx (hb hby at_309) rfl (feqL (x := ((q0 &&& (m0 ^^^ (-1 : Int64))) ||| (q1 &&& (m1 ^^^ (-1 : Int64))))) (y := (0 : Int64)) hc309).1 ?_
            refine s_iconst (pc' := 313) (z := (1 : Int32)) X_297.here hx (hb hby at_312) rfl rfl ?_
            refine s_goto (pc' := 317) X_297.here hx (hb hby at_313) (by decide) (by decide) ?_
            refine s_istore (pc' := 319) (l' := #[.val (.long q0), .second, .val (.long q1), .second, .val (.int p4), .val (.int p5), .val (.int nu0), .val (.int nu1), .val (.int nu2), .val (.int nu3), .val (.int (2 : Int32)), .val (.ref bl), .val (.long m0), .second, .val (.long m1), .second, .val (.ref b_294), .val (.int r), .val (.int (1 : Int32))]) X_297.here hx (hb hby at_317) rfl rfl ?_
            refine s_iload (pc' := 321) X_297.here hx (hb hby at_319) rfl rfl ?_
            refine s_iload (pc' := 323) X_297.here hx (hb hby at_321) rfl rfl ?_
            by_cases hc323 : (r).toInt = (1 : Int)
            · skip
              refine s_icmpNo (pc' := 326) X_297.here hx (hb hby at_323) rfl (teqI (x := r) (y := (1 : Int32)) hc323).2 ?_
              refine s_aload (pc' := 328) X_297.here hx (hb hby at_326) rfl rfl rfl ?_
              refine s_iconst (pc' := 329) (z := (0 : Int32)) X_297.here hx (hb hby at_328) rfl rfl ?_
              obtain ⟨cl_300, Ar_300, q_300, S_300, N_300, H_300, G_300⟩ := id V_b_294
              have hi_300 : ¬ ((0 : Int32) < 0 ∨ cl_300.slots.size ≤ ((0 : Int32)).toNatClampNeg) := inb_of S_300 ⟨by decide, by decide⟩
              refine Win.go (fun _ k => X_297.laload hx (j := (0 : Int32)) (v := (.long (q0 &&& m0))) (by rw [e_297]; exact Ar_300.1) (State.isArrayOf_alike hZ.alike Ar_300.2.1) Ar_300.2.2 hi_300 (H_300.at hi_300 rfl) (g := (mkF m 329 #[.val (.long q0), .second, .val (.long q1), .second, .val (.int p4), .val (.int p5), .val (.int nu0), .val (.int nu1), .val (.int nu2), .val (.int nu3), .val (.int (2 : Int32)), .val (.ref bl), .val (.long m0), .second, .val (.long m1), .second, .val (.ref b_294), .val (.int r), .val (.int (1 : Int32))] [(.int (0 : Int32)), (.ref b_294)])) rfl rfl (hb hby at_329) _ k) ?_
              show Win p.tables e below _ (T_297.setTop (mkF m 330 #[.val (.long q0), .second, .val (.long q1), .second, .val (.int p4), .val (.int p5), .val (.int nu0), .val (.int nu1), .val (.int nu2), .val (.int nu3), .val (.int (2 : Int32)), .val (.ref bl), .val (.long m0), .second, .val (.long m1), .second, .val (.ref b_294), .val (.int r), .val (.int (1 : Int32))] [(.long (q0 &&& m0))]))
              clear Ar_300 q_300 S_300 N_300 H_300 G_300 hi_300
              refine s_lloadN (pc' := 331) X_297.here hx (hb hby at_330) rfl rfl ?_
              refine s_lload (pc' := 333) X_297.here hx (hb hby at_331) rfl rfl ?_
              refine s_land (pc' := 334) X_297.here hx (hb hby at_333) rfl ?_
              refine s_lcmp (pc' := 335) X_297.here hx (hb hby at_334) rfl ?_
              refine s_ifNo (pc' := 338) X_297.here hx (hb hby at_335) rfl (teqL (x := (q0 &&& m0)) (y := (q0 &&& m0)) (rfl)).2 ?_
              refine s_aload (pc' := 340) X_297.here hx (hb hby at_338) rfl rfl rfl ?_
              refine s_iconst (pc' := 341) (z := (1 : Int32)) X_297.here hx (hb hby at_340) rfl rfl ?_
              obtain ⟨cl_301, Ar_301, q_301, S_301, N_301, H_301, G_301⟩ := id V_b_294
              have hi_301 : ¬ ((1 : Int32) < 0 ∨ cl_301.slots.size ≤ ((1 : Int32)).toNatClampNeg) := inb_of S_301 ⟨by decide, by decide⟩
              refine Win.go (fun _ k => X_297.laload hx (j := (1 : Int32)) (v := (.long (q1 &&& m1))) (by rw [e_297]; exact Ar_301.1) (State.isArrayOf_alike hZ.alike Ar_301.2.1) Ar_301.2.2 hi_301 (H_301.at hi_301 rfl) (g := (mkF m 341 #[.val (.long q0), .second, .val (.long q1), .second, .val (.int p4), .val (.int p5), .val (.int nu0), .val (.int nu1), .val (.int nu2), .val (.int nu3), .val (.int (2 : Int32)), .val (.ref bl), .val (.long m0), .second, .val (.long m1), .second, .val (.ref b_294), .val (.int r), .val (.int (1 : Int32))] [(.int (1 : Int32)), (.ref b_294)])) rfl rfl (hb hby at_341) _ k) ?_
              show Win p.tables e below _ (T_297.setTop (mkF m 342 #[.val (.long q0), .second, .val (.long q1), .second, .val (.int p4), .val (.int p5), .val (.int nu0), .val (.int nu1), .val (.int nu2), .val (.int nu3), .val (.int (2 : Int32)), .val (.ref bl), .val (.long m0), .second, .val (.long m1), .second, .val (.ref b_294), .val (.int r), .val (.int (1 : Int32))] [(.long (q1 &&& m1))]))
              clear Ar_301 q_301 S_301 N_301 H_301 G_301 hi_301
              refine s_lloadN (pc' := 343) X_297.here hx (hb hby at_342) rfl rfl ?_
              refine s_lload (pc' := 345) X_297.here hx (hb hby at_343) rfl rfl ?_
              refine s_land (pc' := 346) X_297.here hx (hb hby at_345) rfl ?_
              refine s_lcmp (pc' := 347) X_297.here hx (hb hby at_346) rfl ?_
              refine s_ifNo (pc' := 350) X_297.here hx (hb hby at_347) rfl (teqL (x := (q1 &&& m1)) (y := (q1 &&& m1)) (rfl)).2 ?_
              refine s_iconst (pc' := 351) (z := (1 : Int32)) X_297.here hx (hb hby at_350) rfl rfl ?_
              refine s_goto (pc' := 355) X_297.here hx (hb hby at_351) (by decide) (by decide) ?_
              refine winN X_297 hx hlk e_297 (t := .boolean) Bd.returns (by simp) (hb hby at_355) (by decide) (by decide) (z' := 1) rfl ⟨Nf, rfl⟩
            · skip
              refine s_icmpYes (pc' := 354) X_297.here hx (hb hby at_323) (feqI (x := r) (y := (1 : Int32)) hc323).2 (by decide) (by decide) ?_
              refine s_iconst (pc' := 355) (z := (0 : Int32)) X_297.here hx (hb hby at_354) rfl rfl ?_
              exfalso
              omega
        · skip
          show Win p.tables e below _ (TJ109.setTop (mkF m 109 #[.val (.long q0), .second, .val (.long q1), .second, .val (.int p4), .val (.int p5), .val (.int nu0), .val (.int nu1), .val (.int nu2), .val (.int nu3), .val (.int (3 : Int32)), .unset, .unset, .unset, .unset, .unset, .unset, .unset, .unset] []))
          have hcl : ((3 : Int32)).toInt = 3 := rfl
          rw [hcl] at hJ109
          refine s_iload (pc' := 111) XJ109.here hx (hb hby at_109) rfl rfl ?_
          refine s_iload (pc' := 113) XJ109.here hx (hb hby at_111) rfl rfl ?_
          refine s_iload (pc' := 115) XJ109.here hx (hb hby at_113) rfl rfl ?_
          refine s_iload (pc' := 117) XJ109.here hx (hb hby at_115) rfl rfl ?_
          refine s_iload (pc' := 119) XJ109.here hx (hb hby at_117) rfl rfl ?_
          obtain ⟨_, _, ⟨T_302, L_302, k_302, n_302⟩, -, X_302, ⟨Lc_302, hQ_302, l_302, y_302, z_302⟩, st_302⟩ := Jvm.LawKit.callS XJ109 hx (y := (⟨"com/example/faithful_deputy/faithfuldeputy/BitsKeepOnlyPinLaw", "list", "(IIIII)[I"⟩ : MethodName)) hown (mvT hZ (hw _ (List.mem_of_getElem? (i := 1) rfl))) (mvT hZ (hw _ (List.mem_of_getElem? (i := 2) rfl))) (mvT hZ (hw _ (List.mem_of_getElem? (i := 3) rfl))) (mvT hZ (hw _ (List.mem_of_getElem? (i := 4) rfl))) (by decide) (backOf (W := 0) (rm1_3 l Z a0 hw [] nu0 nu1 nu2 nu3 h0 n0 Zs ) hZ (hw _ (List.mem_of_getElem? (i := 4) rfl)) (hw _ (List.mem_of_getElem? (i := 3) rfl)) (by decide) (by decide)) (g := (mkF m 119 #[.val (.long q0), .second, .val (.long q1), .second, .val (.int p4), .val (.int p5), .val (.int nu0), .val (.int nu1), .val (.int nu2), .val (.int nu3), .val (.int (3 : Int32)), .unset, .unset, .unset, .unset, .unset, .unset, .unset, .unset] [(.int nu3), (.int nu2), (.int nu1), (.int nu0), (.int (3 : Int32))])) rfl (by rw [hml]; rfl) (argsL := [(.int (3 : Int32)), (.int nu0), (.int nu1), (.int nu2), (.int nu3)]) (rest := []) (lenOf pd_0 rfl) rfl (by show 2 * 0 + _ ≤ _; exact Nat.le_of_eq rfl) (hb hby at_119) (fun _ _ => ⟨rfl, eJ109, (by decide : 0 + 1 ≤ _), (by decide : 0 + 3 ≤ _)⟩)
          dsimp only [Pt.U, Pt.locs, Pt.cells, Pt.slots] at X_302 l_302 y_302 z_302 st_302 hQ_302
          subst l_302 y_302 z_302
          obtain ⟨h_302, e_302⟩ : ∃ z, T_302.heap = z := ⟨_, rfl⟩
          rw [e_302] at hQ_302
          obtain ⟨Nq_302, K_302, bl, kk_302, rfl, g_bl, so_302, n_302_V_bl⟩ := hQ_302
          replace Nf := Fr.app Nf Nq_302
          replace Zs := Nat.le_trans Zs K_302.1
          have V_bl := n_302_V_bl
          have lt_bl := V_bl.lt
          refine Win.go st_302 ?_
          clear st_302 Nq_302 XJ109 eJ109 K_302
          show Win p.tables e below _ (T_302.setTop (mkF m 122 #[.val (.long q0), .second, .val (.long q1), .second, .val (.int p4), .val (.int p5), .val (.int nu0), .val (.int nu1), .val (.int nu2), .val (.int nu3), .val (.int (3 : Int32)), .unset, .unset, .unset, .unset, .unset, .unset, .unset, .unset] [(.ref bl)]))
          refine s_astore (pc' := 124) (l' := #[.val (.long q0), .second, .val (.long q1), .second, .val (.int p4), .val (.int p5), .val (.int nu0), .val (.int nu1), .val (.int nu2), .val (.int nu3), .val (.int (3 : Int32)), .val (.ref bl), .unset, .unset, .unset, .unset, .unset, .unset, .unset]) X_302.here hx (hb hby at_122) rfl rfl rfl ?_
          refine s_iload (pc' := 126) X_302.here hx (hb hby at_124) rfl rfl ?_
          refine s_iconst (pc' := 127) (z := (0 : Int32)) X_302.here hx (hb hby at_126) rfl rfl ?_
          refine s_iload (pc' := 129) X_302.here hx (hb hby at_127) rfl rfl ?_
          refine s_ifNo (pc' := 132) X_302.here hx (hb hby at_129) rfl ((if0 _ _).trans (tltI (x := (0 : Int32)) (y := (3 : Int32)) (by decide)).2.2.2) ?_
          refine s_iconst (pc' := 133) (z := (1 : Int32)) X_302.here hx (hb hby at_132) rfl rfl ?_
          refine s_goto (pc' := 137) X_302.here hx (hb hby at_133) (by decide) (by decide) ?_
          obtain ⟨_, _, ⟨T_303, L_303, k_303, n_303⟩, -, X_303, ⟨Lc_303, hQ_303, l_303, y_303, z_303⟩, st_303⟩ := Jvm.LawKit.callS X_302 hx (y := (⟨"com/example/faithful_deputy/faithfuldeputy/BitsKeepOnlyPinLaw", "bitIn", "(IIZ)J"⟩ : MethodName)) hown (mvT hZ (hw _ (List.mem_of_getElem? (i := 6) rfl))) (mvT hZ (hw _ (List.mem_of_getElem? (i := 7) rfl))) (mvT hZ (hw _ (List.mem_of_getElem? (i := 3) rfl))) (mvT hZ (hw _ (List.mem_of_getElem? (i := 8) rfl))) (by decide) (backOf (W := 0) (rm2_0_1 l Z a0 hw [] nu0 h_302 n0 Zs ) hZ (hw _ (List.mem_of_getElem? (i := 8) rfl)) (hw _ (List.mem_of_getElem? (i := 3) rfl)) (by decide) (by decide)) (g := (mkF m 137 #[.val (.long q0), .second, .val (.long q1), .second, .val (.int p4), .val (.int p5), .val (.int nu0), .val (.int nu1), .val (.int nu2), .val (.int nu3), .val (.int (3 : Int32)), .val (.ref bl), .unset, .unset, .unset, .unset, .unset, .unset, .unset] [(.int (1 : Int32)), (.int (0 : Int32)), (.int nu0)])) rfl (by rw [hml]; rfl) (argsL := [(.int nu0), (.int (0 : Int32)), (.int (1 : Int32))]) (rest := []) (lenOf pd_1 rfl) rfl (by show 2 * 0 + _ ≤ _; exact Nat.le_of_eq rfl) (hb hby at_137) (fun _ _ => ⟨rfl, e_302, (by decide : 1 + 0 ≤ _), (by decide : 3 + 0 ≤ _)⟩)
          dsimp only [Pt.U, Pt.locs, Pt.cells, Pt.slots] at X_303 l_303 y_303 z_303 st_303 hQ_303
          subst l_303 y_303 z_303
          obtain ⟨Nq_303, e_303, z00, rfl, hz00⟩ := hQ_303
          replace Nf := Fr.app Nf Nq_303
          refine Win.go st_303 ?_
          clear st_303 Nq_303 X_302 e_302
          show Win p.tables e below _ (T_303.setTop (mkF m 140 #[.val (.long q0), .second, .val (.long q1), .second, .val (.int p4), .val (.int p5), .val (.int nu0), .val (.int nu1), .val (.int nu2), .val (.int nu3), .val (.int (3 : Int32)), .val (.ref bl), .unset, .unset, .unset, .unset, .unset, .unset, .unset] [(.long z00)]))
          refine s_iload (pc' := 142) X_303.here hx (hb hby at_140) rfl rfl ?_
          refine s_iconst (pc' := 143) (z := (0 : Int32)) X_303.here hx (hb hby at_142) rfl rfl ?_
          refine s_iload (pc' := 145) X_303.here hx (hb hby at_143) rfl rfl ?_
          refine s_iconst (pc' := 146) (z := (1 : Int32)) X_303.here hx (hb hby at_145) rfl rfl ?_
          refine s_icmpNo (pc' := 149) X_303.here hx (hb hby at_146) rfl (tltI (x := (1 : Int32)) (y := (3 : Int32)) (by decide)).2.2.2 ?_
          refine s_iconst (pc' := 150) (z := (1 : Int32)) X_303.here hx (hb hby at_149) rfl rfl ?_
          refine s_goto (pc' := 154) X_303.here hx (hb hby at_150) (by decide) (by decide) ?_
          obtain ⟨_, _, ⟨T_304, L_304, k_304, n_304⟩, -, X_304, ⟨Lc_304, hQ_304, l_304, y_304, z_304⟩, st_304⟩ := Jvm.LawKit.callS X_303 hx (y := (⟨"com/example/faithful_deputy/faithfuldeputy/BitsKeepOnlyPinLaw", "bitIn", "(IIZ)J"⟩ : MethodName)) hown (mvT hZ (hw _ (List.mem_of_getElem? (i := 6) rfl))) (mvT hZ (hw _ (List.mem_of_getElem? (i := 7) rfl))) (mvT hZ (hw _ (List.mem_of_getElem? (i := 3) rfl))) (mvT hZ (hw _ (List.mem_of_getElem? (i := 8) rfl))) (by decide) (backOf (W := 2) (rm2_0_1 l Z a0 hw [] nu1 h_302 n0 Zs ) hZ (hw _ (List.mem_of_getElem? (i := 8) rfl)) (hw _ (List.mem_of_getElem? (i := 3) rfl)) (by decide) (by decide)) (g := (mkF m 154 #[.val (.long q0), .second, .val (.long q1), .second, .val (.int p4), .val (.int p5), .val (.int nu0), .val (.int nu1), .val (.int nu2), .val (.int nu3), .val (.int (3 : Int32)), .val (.ref bl), .unset, .unset, .unset, .unset, .unset, .unset, .unset] [(.int (1 : Int32)), (.int (0 : Int32)), (.int nu1), (.long z00)])) rfl (by rw [hml]; rfl) (argsL := [(.int nu1), (.int (0 : Int32)), (.int (1 : Int32))]) (rest := [(.long z00)]) (lenOf pd_1 rfl) rfl (by show 2 * 0 + _ ≤ _; exact Nat.le_of_eq rfl) (hb hby at_154) (fun _ _ => ⟨rfl, e_303, (by decide : 1 + 0 ≤ _), (by decide : 3 + 0 ≤ _)⟩)
          dsimp only [Pt.U, Pt.locs, Pt.cells, Pt.slots] at X_304 l_304 y_304 z_304 st_304 hQ_304
          subst l_304 y_304 z_304
          obtain ⟨Nq_304, e_304, z01, rfl, hz01⟩ := hQ_304
          replace Nf := Fr.app Nf Nq_304
          refine Win.go st_304 ?_
          clear st_304 Nq_304 X_303 e_303
          show Win p.tables e below _ (T_304.setTop (mkF m 157 #[.val (.long q0), .second, .val (.long q1), .second, .val (.int p4), .val (.int p5), .val (.int nu0), .val (.int nu1), .val (.int nu2), .val (.int nu3), .val (.int (3 : Int32)), .val (.ref bl), .unset, .unset, .unset, .unset, .unset, .unset, .unset] [(.long z01), (.long z00)]))
          refine s_lor (pc' := 158) X_304.here hx (hb hby at_157) rfl ?_
          refine s_iload (pc' := 160) X_304.here hx (hb hby at_158) rfl rfl ?_
          refine s_iconst (pc' := 161) (z := (0 : Int32)) X_304.here hx (hb hby at_160) rfl rfl ?_
          refine s_iload (pc' := 163) X_304.here hx (hb hby at_161) rfl rfl ?_
          refine s_iconst (pc' := 164) (z := (2 : Int32)) X_304.here hx (hb hby at_163) rfl rfl ?_
          refine s_icmpNo (pc' := 167) X_304.here hx (hb hby at_164) rfl (tltI (x := (2 : Int32)) (y := (3 : Int32)) (by decide)).2.2.2 ?_
          refine s_iconst (pc' := 168) (z := (1 : Int32)) X_304.here hx (hb hby at_167) rfl rfl ?_
          refine s_goto (pc' := 172) X_304.here hx (hb hby at_168) (by decide) (by decide) ?_
          obtain ⟨_, _, ⟨T_305, L_305, k_305, n_305⟩, -, X_305, ⟨Lc_305, hQ_305, l_305, y_305, z_305⟩, st_305⟩ := Jvm.LawKit.callS X_304 hx (y := (⟨"com/example/faithful_deputy/faithfuldeputy/BitsKeepOnlyPinLaw", "bitIn", "(IIZ)J"⟩ : MethodName)) hown (mvT hZ (hw _ (List.mem_of_getElem? (i := 6) rfl))) (mvT hZ (hw _ (List.mem_of_getElem? (i := 7) rfl))) (mvT hZ (hw _ (List.mem_of_getElem? (i := 3) rfl))) (mvT hZ (hw _ (List.mem_of_getElem? (i := 8) rfl))) (by decide) (backOf (W := 2) (rm2_0_1 l Z a0 hw [] nu2 h_302 n0 Zs ) hZ (hw _ (List.mem_of_getElem? (i := 8) rfl)) (hw _ (List.mem_of_getElem? (i := 3) rfl)) (by decide) (by decide)) (g := (mkF m 172 #[.val (.long q0), .second, .val (.long q1), .second, .val (.int p4), .val (.int p5), .val (.int nu0), .val (.int nu1), .val (.int nu2), .val (.int nu3), .val (.int (3 : Int32)), .val (.ref bl), .unset, .unset, .unset, .unset, .unset, .unset, .unset] [(.int (1 : Int32)), (.int (0 : Int32)), (.int nu2), (.long (z00 ||| z01))])) rfl (by rw [hml]; rfl) (argsL := [(.int nu2), (.int (0 : Int32)), (.int (1 : Int32))]) (rest := [(.long (z00 ||| z01))]) (lenOf pd_1 rfl) rfl (by show 2 * 0 + _ ≤ _; exact Nat.le_of_eq rfl) (hb hby at_172) (fun _ _ => ⟨rfl, e_304, (by decide : 1 + 0 ≤ _), (by decide : 3 + 0 ≤ _)⟩)
          dsimp only [Pt.U, Pt.locs, Pt.cells, Pt.slots] at X_305 l_305 y_305 z_305 st_305 hQ_305
          subst l_305 y_305 z_305
          obtain ⟨Nq_305, e_305, z02, rfl, hz02⟩ := hQ_305
          replace Nf := Fr.app Nf Nq_305
          refine Win.go st_305 ?_
          clear st_305 Nq_305 X_304 e_304
          show Win p.tables e below _ (T_305.setTop (mkF m 175 #[.val (.long q0), .second, .val (.long q1), .second, .val (.int p4), .val (.int p5), .val (.int nu0), .val (.int nu1), .val (.int nu2), .val (.int nu3), .val (.int (3 : Int32)), .val (.ref bl), .unset, .unset, .unset, .unset, .unset, .unset, .unset] [(.long z02), (.long (z00 ||| z01))]))
          refine s_lor (pc' := 176) X_305.here hx (hb hby at_175) rfl ?_
          refine s_iload (pc' := 178) X_305.here hx (hb hby at_176) rfl rfl ?_
          refine s_iconst (pc' := 179) (z := (0 : Int32)) X_305.here hx (hb hby at_178) rfl rfl ?_
          refine s_iload (pc' := 181) X_305.here hx (hb hby at_179) rfl rfl ?_
          refine s_iconst (pc' := 182) (z := (3 : Int32)) X_305.here hx (hb hby at_181) rfl rfl ?_
          refine s_icmpYes (pc' := 189) X_305.here hx (hb hby at_182) (fltI (x := (3 : Int32)) (y := (3 : Int32)) (by decide)).2.2.2 (by decide) (by decide) ?_
          refine s_iconst (pc' := 190) (z := (0 : Int32)) X_305.here hx (hb hby at_189) rfl rfl ?_
          obtain ⟨_, _, ⟨T_306, L_306, k_306, n_306⟩, -, X_306, ⟨Lc_306, hQ_306, l_306, y_306, z_306⟩, st_306⟩ := Jvm.LawKit.callS X_305 hx (y := (⟨"com/example/faithful_deputy/faithfuldeputy/BitsKeepOnlyPinLaw", "bitIn", "(IIZ)J"⟩ : MethodName)) hown (mvT hZ (hw _ (List.mem_of_getElem? (i := 6) rfl))) (mvT hZ (hw _ (List.mem_of_getElem? (i := 7) rfl))) (mvT hZ (hw _ (List.mem_of_getElem? (i := 3) rfl))) (mvT hZ (hw _ (List.mem_of_getElem? (i := 8) rfl))) (by decide) (backOf (W := 2) (rm2_0_0 l Z a0 hw [] nu3 h_302 n0 Zs ) hZ (hw _ (List.mem_of_getElem? (i := 8) rfl)) (hw _ (List.mem_of_getElem? (i := 3) rfl)) (by decide) (by decide)) (g := (mkF m 190 #[.val (.long q0), .second, .val (.long q1), .second, .val (.int p4), .val (.int p5), .val (.int nu0), .val (.int nu1), .val (.int nu2), .val (.int nu3), .val (.int (3 : Int32)), .val (.ref bl), .unset, .unset, .unset, .unset, .unset, .unset, .unset] [(.int (0 : Int32)), (.int (0 : Int32)), (.int nu3), (.long ((z00 ||| z01) ||| z02))])) rfl (by rw [hml]; rfl) (argsL := [(.int nu3), (.int (0 : Int32)), (.int (0 : Int32))]) (rest := [(.long ((z00 ||| z01) ||| z02))]) (lenOf pd_1 rfl) rfl (by show 2 * 0 + _ ≤ _; exact Nat.le_of_eq rfl) (hb hby at_190) (fun _ _ => ⟨rfl, e_305, (by decide : 1 + 0 ≤ _), (by decide : 3 + 0 ≤ _)⟩)
          dsimp only [Pt.U, Pt.locs, Pt.cells, Pt.slots] at X_306 l_306 y_306 z_306 st_306 hQ_306
          subst l_306 y_306 z_306
          obtain ⟨Nq_306, e_306, rfl⟩ := hQ_306
          replace Nf := Fr.app Nf Nq_306
          refine Win.go st_306 ?_
          clear st_306 Nq_306 X_305 e_305
          show Win p.tables e below _ (T_306.setTop (mkF m 193 #[.val (.long q0), .second, .val (.long q1), .second, .val (.int p4), .val (.int p5), .val (.int nu0), .val (.int nu1), .val (.int nu2), .val (.int nu3), .val (.int (3 : Int32)), .val (.ref bl), .unset, .unset, .unset, .unset, .unset, .unset, .unset] [(.long (0 : Int64)), (.long ((z00 ||| z01) ||| z02))]))
          refine s_lor (pc' := 194) X_306.here hx (hb hby at_193) rfl ?_
          refine s_lstore (pc' := 196) (l' := #[.val (.long q0), .second, .val (.long q1), .second, .val (.int p4), .val (.int p5), .val (.int nu0), .val (.int nu1), .val (.int nu2), .val (.int nu3), .val (.int (3 : Int32)), .val (.ref bl), .val (.long (((z00 ||| z01) ||| z02) ||| (0 : Int64))), .second, .unset, .unset, .unset, .unset, .unset]) X_306.here hx (hb hby at_194) rfl rfl ?_
          generalize hm0 : (((z00 ||| z01) ||| z02) ||| (0 : Int64)) = m0
          show Win p.tables e below _ (T_306.setTop (mkF m 196 #[.val (.long q0), .second, .val (.long q1), .second, .val (.int p4), .val (.int p5), .val (.int nu0), .val (.int nu1), .val (.int nu2), .val (.int nu3), .val (.int (3 : Int32)), .val (.ref bl), .val (.long m0), .second, .unset, .unset, .unset, .unset, .unset] []))
          refine s_iload (pc' := 198) X_306.here hx (hb hby at_196) rfl rfl ?_
          refine s_iconst (pc' := 199) (z := (1 : Int32)) X_306.here hx (hb hby at_198) rfl rfl ?_
          refine s_iload (pc' := 201) X_306.here hx (hb hby at_199) rfl rfl ?_
          refine s_ifNo (pc' := 204) X_306.here hx (hb hby at_201) rfl ((if0 _ _).trans (tltI (x := (0 : Int32)) (y := (3 : Int32)) (by decide)).2.2.2) ?_
          refine s_iconst (pc' := 205) (z := (1 : Int32)) X_306.here hx (hb hby at_204) rfl rfl ?_
          refine s_goto (pc' := 209) X_306.here hx (hb hby at_205) (by decide) (by decide) ?_
          obtain ⟨_, _, ⟨T_307, L_307, k_307, n_307⟩, -, X_307, ⟨Lc_307, hQ_307, l_307, y_307, z_307⟩, st_307⟩ := Jvm.LawKit.callS X_306 hx (y := (⟨"com/example/faithful_deputy/faithfuldeputy/BitsKeepOnlyPinLaw", "bitIn", "(IIZ)J"⟩ : MethodName)) hown (mvT hZ (hw _ (List.mem_of_getElem? (i := 6) rfl))) (mvT hZ (hw _ (List.mem_of_getElem? (i := 7) rfl))) (mvT hZ (hw _ (List.mem_of_getElem? (i := 3) rfl))) (mvT hZ (hw _ (List.mem_of_getElem? (i := 8) rfl))) (by decide) (backOf (W := 0) (rm2_1_1 l Z a0 hw [] nu0 h_302 n0 Zs ) hZ (hw _ (List.mem_of_getElem? (i := 8) rfl)) (hw _ (List.mem_of_getElem? (i := 3) rfl)) (by decide) (by decide)) (g := (mkF m 209 #[.val (.long q0), .second, .val (.long q1), .second, .val (.int p4), .val (.int p5), .val (.int nu0), .val (.int nu1), .val (.int nu2), .val (.int nu3), .val (.int (3 : Int32)), .val (.ref bl), .val (.long m0), .second, .unset, .unset, .unset, .unset, .unset] [(.int (1 : Int32)), (.int (1 : Int32)), (.int nu0)])) rfl (by rw [hml]; rfl) (argsL := [(.int nu0), (.int (1 : Int32)), (.int (1 : Int32))]) (rest := []) (lenOf pd_1 rfl) rfl (by show 2 * 0 + _ ≤ _; exact Nat.le_of_eq rfl) (hb hby at_209) (fun _ _ => ⟨rfl, e_306, (by decide : 1 + 0 ≤ _), (by decide : 3 + 0 ≤ _)⟩)
          dsimp only [Pt.U, Pt.locs, Pt.cells, Pt.slots] at X_307 l_307 y_307 z_307 st_307 hQ_307
          subst l_307 y_307 z_307
          obtain ⟨Nq_307, e_307, z10, rfl, hz10⟩ := hQ_307
          replace Nf := Fr.app Nf Nq_307
          refine Win.go st_307 ?_
          clear st_307 Nq_307 X_306 e_306
          show Win p.tables e below _ (T_307.setTop (mkF m 212 #[.val (.long q0), .second, .val (.long q1), .second, .val (.int p4), .val (.int p5), .val (.int nu0), .val (.int nu1), .val (.int nu2), .val (.int nu3), .val (.int (3 : Int32)), .val (.ref bl), .val (.long m0), .second, .unset, .unset, .unset, .unset, .unset] [(.long z10)]))
          refine s_iload (pc' := 214) X_307.here hx (hb hby at_212) rfl rfl ?_
          refine s_iconst (pc' := 215) (z := (1 : Int32)) X_307.here hx (hb hby at_214) rfl rfl ?_
          refine s_iload (pc' := 217) X_307.here hx (hb hby at_215) rfl rfl ?_
          refine s_iconst (pc' := 218) (z := (1 : Int32)) X_307.here hx (hb hby at_217) rfl rfl ?_
          refine s_icmpNo (pc' := 221) X_307.here hx (hb hby at_218) rfl (tltI (x := (1 : Int32)) (y := (3 : Int32)) (by decide)).2.2.2 ?_
          refine s_iconst (pc' := 222) (z := (1 : Int32)) X_307.here hx (hb hby at_221) rfl rfl ?_
          refine s_goto (pc' := 226) X_307.here hx (hb hby at_222) (by decide) (by decide) ?_
          obtain ⟨_, _, ⟨T_308, L_308, k_308, n_308⟩, -, X_308, ⟨Lc_308, hQ_308, l_308, y_308, z_308⟩, st_308⟩ := Jvm.LawKit.callS X_307 hx (y := (⟨"com/example/faithful_deputy/faithfuldeputy/BitsKeepOnlyPinLaw", "bitIn", "(IIZ)J"⟩ : MethodName)) hown (mvT hZ (hw _ (List.mem_of_getElem? (i := 6) rfl))) (mvT hZ (hw _ (List.mem_of_getElem? (i := 7) rfl))) (mvT hZ (hw _ (List.mem_of_getElem? (i := 3) rfl))) (mvT hZ (hw _ (List.mem_of_getElem? (i := 8) rfl))) (by decide) (backOf (W := 2) (rm2_1_1 l Z a0 hw [] nu1 h_302 n0 Zs ) hZ (hw _ (List.mem_of_getElem? (i := 8) rfl)) (hw _ (List.mem_of_getElem? (i := 3) rfl)) (by decide) (by decide)) (g := (mkF m 226 #[.val (.long q0), .second, .val (.long q1), .second, .val (.int p4), .val (.int p5), .val (.int nu0), .val (.int nu1), .val (.int nu2), .val (.int nu3), .val (.int (3 : Int32)), .val (.ref bl), .val (.long m0), .second, .unset, .unset, .unset, .unset, .unset] [(.int (1 : Int32)), (.int (1 : Int32)), (.int nu1), (.long z10)])) rfl (by rw [hml]; rfl) (argsL := [(.int nu1), (.int (1 : Int32)), (.int (1 : Int32))]) (rest := [(.long z10)]) (lenOf pd_1 rfl) rfl (by show 2 * 0 + _ ≤ _; exact Nat.le_of_eq rfl) (hb hby at_226) (fun _ _ => ⟨rfl, e_307, (by decide : 1 + 0 ≤ _), (by decide : 3 + 0 ≤ _)⟩)
          dsimp only [Pt.U, Pt.locs, Pt.cells, Pt.slots] at X_308 l_308 y_308 z_308 st_308 hQ_308
          subst l_308 y_308 z_308
          obtain ⟨Nq_308, e_308, z11, rfl, hz11⟩ := hQ_308
          replace Nf := Fr.app Nf Nq_308
          refine Win.go st_308 ?_
          clear st_308 Nq_308 X_307 e_307
          show Win p.tables e below _ (T_308.setTop (mkF m 229 #[.val (.long q0), .second, .val (.long q1), .second, .val (.int p4), .val (.int p5), .val (.int nu0), .val (.int nu1), .val (.int nu2), .val (.int nu3), .val (.int (3 : Int32)), .val (.ref bl), .val (.long m0), .second, .unset, .unset, .unset, .unset, .unset] [(.long z11), (.long z10)]))
          refine s_lor (pc' := 230) X_308.here hx (hb hby at_229) rfl ?_
          refine s_iload (pc' := 232) X_308.here hx (hb hby at_230) rfl rfl ?_
          refine s_iconst (pc' := 233) (z := (1 : Int32)) X_308.here hx (hb hby at_232) rfl rfl ?_
          refine s_iload (pc' := 235) X_308.here hx (hb hby at_233) rfl rfl ?_
          refine s_iconst (pc' := 236) (z := (2 : Int32)) X_308.here hx (hb hby at_235) rfl rfl ?_
          refine s_icmpNo (pc' := 239) X_308.here hx (hb hby at_236) rfl (tltI (x := (2 : Int32)) (y := (3 : Int32)) (by decide)).2.2.2 ?_
          refine s_iconst (pc' := 240) (z := (1 : Int32)) X_308.here hx (hb hby at_239) rfl rfl ?_
          refine s_goto (pc' := 244) X_308.here hx (hb hby at_240) (by decide) (by decide) ?_
          obtain ⟨_, _, ⟨T_309, L_309, k_309, n_309⟩, -, X_309, ⟨Lc_309, hQ_309, l_309, y_309, z_309⟩, st_309⟩ := Jvm.LawKit.callS X_308 hx (y := (⟨"com/example/faithful_deputy/faithfuldeputy/BitsKeepOnlyPinLaw", "bitIn", "(IIZ)J"⟩ : MethodName)) hown (mvT hZ (hw _ (List.mem_of_getElem? (i := 6) rfl))) (mvT hZ (hw _ (List.mem_of_getElem? (i := 7) rfl))) (mvT hZ (hw _ (List.mem_of_getElem? (i := 3) rfl))) (mvT hZ (hw _ (List.mem_of_getElem? (i := 8) rfl))) (by decide) (backOf (W := 2) (rm2_1_1 l Z a0 hw [] nu2 h_302 n0 Zs ) hZ (hw _ (List.mem_of_getElem? (i := 8) rfl)) (hw _ (List.mem_of_getElem? (i := 3) rfl)) (by decide) (by decide)) (g := (mkF m 244 #[.val (.long q0), .second, .val (.long q1), .second, .val (.int p4), .val (.int p5), .val (.int nu0), .val (.int nu1), .val (.int nu2), .val (.int nu3), .val (.int (3 : Int32)), .val (.ref bl), .val (.long m0), .second, .unset, .unset, .unset, .unset, .unset] [(.int (1 : Int32)), (.int (1 : Int32)), (.int nu2), (.long (z10 ||| z11))])) rfl (by rw [hml]; rfl) (argsL := [(.int nu2), (.int (1 : Int32)), (.int (1 : Int32))]) (rest := [(.long (z10 ||| z11))]) (lenOf pd_1 rfl) rfl (by show 2 * 0 + _ ≤ _; exact Nat.le_of_eq rfl) (hb hby at_244) (fun _ _ => ⟨rfl, e_308, (by decide : 1 + 0 ≤ _), (by decide : 3 + 0 ≤ _)⟩)
          dsimp only [Pt.U, Pt.locs, Pt.cells, Pt.slots] at X_309 l_309 y_309 z_309 st_309 hQ_309
          subst l_309 y_309 z_309
          obtain ⟨Nq_309, e_309, z12, rfl, hz12⟩ := hQ_309
          replace Nf := Fr.app Nf Nq_309
          refine Win.go st_309 ?_
          clear st_309 Nq_309 X_308 e_308
          show Win p.tables e below _ (T_309.setTop (mkF m 247 #[.val (.long q0), .second, .val (.long q1), .second, .val (.int p4), .val (.int p5), .val (.int nu0), .val (.int nu1), .val (.int nu2), .val (.int nu3), .val (.int (3 : Int32)), .val (.ref bl), .val (.long m0), .second, .unset, .unset, .unset, .unset, .unset] [(.long z12), (.long (z10 ||| z11))]))
          refine s_lor (pc' := 248) X_309.here hx (hb hby at_247) rfl ?_
          refine s_iload (pc' := 250) X_309.here hx (hb hby at_248) rfl rfl ?_
          refine s_iconst (pc' := 251) (z := (1 : Int32)) X_309.here hx (hb hby at_250) rfl rfl ?_
          refine s_iload (pc' := 253) X_309.here hx (hb hby at_251) rfl rfl ?_
          refine s_iconst (pc' := 254) (z := (3 : Int32)) X_309.here hx (hb hby at_253) rfl rfl ?_
          refine s_icmpYes (pc' := 261) X_309.here hx (hb hby at_254) (fltI (x := (3 : Int32)) (y := (3 : Int32)) (by decide)).2.2.2 (by decide) (by decide) ?_
          refine s_iconst (pc' := 262) (z := (0 : Int32)) X_309.here hx (hb hby at_261) rfl rfl ?_
          obtain ⟨_, _, ⟨T_310, L_310, k_310, n_310⟩, -, X_310, ⟨Lc_310, hQ_310, l_310, y_310, z_310⟩, st_310⟩ := Jvm.LawKit.callS X_309 hx (y := (⟨"com/example/faithful_deputy/faithfuldeputy/BitsKeepOnlyPinLaw", "bitIn", "(IIZ)J"⟩ : MethodName)) hown (mvT hZ (hw _ (List.mem_of_getElem? (i := 6) rfl))) (mvT hZ (hw _ (List.mem_of_getElem? (i := 7) rfl))) (mvT hZ (hw _ (List.mem_of_getElem? (i := 3) rfl))) (mvT hZ (hw _ (List.mem_of_getElem? (i := 8) rfl))) (by decide) (backOf (W := 2) (rm2_1_0 l Z a0 hw [] nu3 h_302 n0 Zs ) hZ (hw _ (List.mem_of_getElem? (i := 8) rfl)) (hw _ (List.mem_of_getElem? (i := 3) rfl)) (by decide) (by decide)) (g := (mkF m 262 #[.val (.long q0), .second, .val (.long q1), .second, .val (.int p4), .val (.int p5), .val (.int nu0), .val (.int nu1), .val (.int nu2), .val (.int nu3), .val (.int (3 : Int32)), .val (.ref bl), .val (.long m0), .second, .unset, .unset, .unset, .unset, .unset] [(.int (0 : Int32)), (.int (1 : Int32)), (.int nu3), (.long ((z10 ||| z11) ||| z12))])) rfl (by rw [hml]; rfl) (argsL := [(.int nu3), (.int (1 : Int32)), (.int (0 : Int32))]) (rest := [(.long ((z10 ||| z11) ||| z12))]) (lenOf pd_1 rfl) rfl (by show 2 * 0 + _ ≤ _; exact Nat.le_of_eq rfl) (hb hby at_262) (fun _ _ => ⟨rfl, e_309, (by decide : 1 + 0 ≤ _), (by decide : 3 + 0 ≤ _)⟩)
          dsimp only [Pt.U, Pt.locs, Pt.cells, Pt.slots] at X_310 l_310 y_310 z_310 st_310 hQ_310
          subst l_310 y_310 z_310
          obtain ⟨Nq_310, e_310, rfl⟩ := hQ_310
          replace Nf := Fr.app Nf Nq_310
          refine Win.go st_310 ?_
          clear st_310 Nq_310 X_309 e_309
          show Win p.tables e below _ (T_310.setTop (mkF m 265 #[.val (.long q0), .second, .val (.long q1), .second, .val (.int p4), .val (.int p5), .val (.int nu0), .val (.int nu1), .val (.int nu2), .val (.int nu3), .val (.int (3 : Int32)), .val (.ref bl), .val (.long m0), .second, .unset, .unset, .unset, .unset, .unset] [(.long (0 : Int64)), (.long ((z10 ||| z11) ||| z12))]))
          refine s_lor (pc' := 266) X_310.here hx (hb hby at_265) rfl ?_
          refine s_lstore (pc' := 268) (l' := #[.val (.long q0), .second, .val (.long q1), .second, .val (.int p4), .val (.int p5), .val (.int nu0), .val (.int nu1), .val (.int nu2), .val (.int nu3), .val (.int (3 : Int32)), .val (.ref bl), .val (.long m0), .second, .val (.long (((z10 ||| z11) ||| z12) ||| (0 : Int64))), .second, .unset, .unset, .unset]) X_310.here hx (hb hby at_266) rfl rfl ?_
          generalize hm1 : (((z10 ||| z11) ||| z12) ||| (0 : Int64)) = m1
          show Win p.tables e below _ (T_310.setTop (mkF m 268 #[.val (.long q0), .second, .val (.long q1), .second, .val (.int p4), .val (.int p5), .val (.int nu0), .val (.int nu1), .val (.int nu2), .val (.int nu3), .val (.int (3 : Int32)), .val (.ref bl), .val (.long m0), .second, .val (.long m1), .second, .unset, .unset, .unset] []))
          refine s_iconst (pc' := 269) (z := (2 : Int32)) X_310.here hx (hb hby at_268) rfl rfl ?_
          obtain ⟨T_311, h_311, k_311, X_311, e_311, Ex_311, A_311, EA_311, st_311⟩ := newPE X_310 hx hZ (hw _ (List.mem_of_getElem? (i := 9) rfl)) e_310 (g := (mkF m 269 #[.val (.long q0), .second, .val (.long q1), .second, .val (.int p4), .val (.int p5), .val (.int nu0), .val (.int nu1), .val (.int nu2), .val (.int nu3), .val (.int (3 : Int32)), .val (.ref bl), .val (.long m0), .second, .val (.long m1), .second, .unset, .unset, .unset] [(.int (2 : Int32))])) rfl (hb hby at_269) rfl (by decide) (cap := 2) (by decide) (by decide) (by decide) (by decide) (ad := "[J") (by decide)
          obtain ⟨b_311, g_311⟩ : ∃ z, z = h_302.size := ⟨_, rfl⟩
          have ne_bl_b_311 : bl ≠ b_311 := Nat.ne_of_lt (Nat.lt_of_lt_of_le lt_bl (Nat.le_of_eq g_311.symm))
          have g_b_311 : n0 ≤ b_311 := Nat.le_trans Zs (Nat.le_of_eq g_311.symm)
          rw [← g_311] at A_311 EA_311 st_311
          replace V_bl := V_bl.ext Ex_311
          replace lt_bl := Nat.lt_of_lt_of_le lt_bl Ex_311.1
          replace Zs := Nat.le_trans Zs Ex_311.1
          have V_b_311 : Arv Z h_311 b_311 k_311 .long (2 : Int32) [(.long (0 : Int64)), (.long (0 : Int64))] (.long (0 : Int64)) := (Arv.new A_311 (by decide)).pad (pad_rep [] (.long (0 : Int64)) 2)
          have lt_b_311 := V_b_311.lt
          have E_b_311 := EA_311
          refine Win.go st_311 ?_
          clear st_311 Ex_311 A_311 EA_311 g_311 X_310 e_310
          show Win p.tables e below _ (T_311.setTop (mkF m 271 #[.val (.long q0), .second, .val (.long q1), .second, .val (.int p4), .val (.int p5), .val (.int nu0), .val (.int nu1), .val (.int nu2), .val (.int nu3), .val (.int (3 : Int32)), .val (.ref bl), .val (.long m0), .second, .val (.long m1), .second, .unset, .unset, .unset] [(.ref b_311)]))
          refine s_dup (pc' := 272) X_311.here hx (hb hby at_271) rfl rfl ?_
          refine s_iconst (pc' := 273) (z := (0 : Int32)) X_311.here hx (hb hby at_272) rfl rfl ?_
          refine s_lloadN (pc' := 274) X_311.here hx (hb hby at_273) rfl rfl ?_
          obtain ⟨cl_312, Ar_312, q_312, S_312, N_312, H_312, G_312⟩ := V_b_311
          obtain ⟨T_312, h_312, X_312, e_312, W_312, st_312⟩ := stJ X_311 hx hZ e_311 Ar_312 (j := (0 : Int32)) (inb_of S_312 ⟨by decide, by decide⟩) (g := (mkF m 274 #[.val (.long q0), .second, .val (.long q1), .second, .val (.int p4), .val (.int p5), .val (.int nu0), .val (.int nu1), .val (.int nu2), .val (.int nu3), .val (.int (3 : Int32)), .val (.ref bl), .val (.long m0), .second, .val (.long m1), .second, .unset, .unset, .unset] [(.long q0), (.int (0 : Int32)), (.ref b_311), (.ref b_311)])) rfl rfl (hb hby at_274)
          have V_312 := Arv.set Ar_312 q_312 S_312 N_312 H_312 G_312 rfl W_312 0 rfl (Nat.le_of_ble_eq_true rfl)
          replace V_bl := V_bl.other W_312 ne_bl_b_311
          replace E_b_311 := E_b_311.wr W_312
          replace lt_bl := Nat.lt_of_lt_of_le lt_bl (Keep.of_wr W_312).1
          replace lt_b_311 := Nat.lt_of_lt_of_le lt_b_311 (Keep.of_wr W_312).1
          replace Zs := Nat.le_trans Zs (Keep.of_wr W_312).1
          replace V_b_311 : Arv Z h_312 b_311 k_311 .long (2 : Int32) [(.long q0), (.long (0 : Int64))] (.long (0 : Int64)) := V_312
          replace Nf := Fr.snoc X_312 Nf g_b_311
          refine Win.go st_312 ?_
          clear st_312 W_312 V_312 Ar_312 q_312 S_312 N_312 H_312 G_312 X_311 e_311
          show Win p.tables e below _ (T_312.setTop (mkF m 275 #[.val (.long q0), .second, .val (.long q1), .second, .val (.int p4), .val (.int p5), .val (.int nu0), .val (.int nu1), .val (.int nu2), .val (.int nu3), .val (.int (3 : Int32)), .val (.ref bl), .val (.long m0), .second, .val (.long m1), .second, .unset, .unset, .unset] [(.ref b_311)]))
          refine s_dup (pc' := 276) X_312.here hx (hb hby at_275) rfl rfl ?_
          refine s_iconst (pc' := 277) (z := (1 : Int32)) X_312.here hx (hb hby at_276) rfl rfl ?_
          refine s_lloadN (pc' := 278) X_312.here hx (hb hby at_277) rfl rfl ?_
          obtain ⟨cl_313, Ar_313, q_313, S_313, N_313, H_313, G_313⟩ := V_b_311
          obtain ⟨T_313, h_313, X_313, e_313, W_313, st_313⟩ := stJ X_312 hx hZ e_312 Ar_313 (j := (1 : Int32)) (inb_of S_313 ⟨by decide, by decide⟩) (g := (mkF m 278 #[.val (.long q0), .second, .val (.long q1), .second, .val (.int p4), .val (.int p5), .val (.int nu0), .val (.int nu1), .val (.int nu2), .val (.int nu3), .val (.int (3 : Int32)), .val (.ref bl), .val (.long m0), .second, .val (.long m1), .second, .unset, .unset, .unset] [(.long q1), (.int (1 : Int32)), (.ref b_311), (.ref b_311)])) rfl rfl (hb hby at_278)
          have V_313 := Arv.set Ar_313 q_313 S_313 N_313 H_313 G_313 rfl W_313 1 rfl (Nat.le_of_ble_eq_true rfl)
          replace V_bl := V_bl.other W_313 ne_bl_b_311
          replace E_b_311 := E_b_311.wr W_313
          replace lt_bl := Nat.lt_of_lt_of_le lt_bl (Keep.of_wr W_313).1
          replace lt_b_311 := Nat.lt_of_lt_of_le lt_b_311 (Keep.of_wr W_313).1
          replace Zs := Nat.le_trans Zs (Keep.of_wr W_313).1
          replace V_b_311 : Arv Z h_313 b_311 k_311 .long (2 : Int32) [(.long q0), (.long q1)] (.long (0 : Int64)) := V_313
          replace Nf := Fr.snoc X_313 Nf g_b_311
          refine Win.go st_313 ?_
          clear st_313 W_313 V_313 Ar_313 q_313 S_313 N_313 H_313 G_313 X_312 e_312
          show Win p.tables e below _ (T_313.setTop (mkF m 279 #[.val (.long q0), .second, .val (.long q1), .second, .val (.int p4), .val (.int p5), .val (.int nu0), .val (.int nu1), .val (.int nu2), .val (.int nu3), .val (.int (3 : Int32)), .val (.ref bl), .val (.long m0), .second, .val (.long m1), .second, .unset, .unset, .unset] [(.ref b_311)]))
          refine s_astore (pc' := 281) (l' := #[.val (.long q0), .second, .val (.long q1), .second, .val (.int p4), .val (.int p5), .val (.int nu0), .val (.int nu1), .val (.int nu2), .val (.int nu3), .val (.int (3 : Int32)), .val (.ref bl), .val (.long m0), .second, .val (.long m1), .second, .val (.ref b_311), .unset, .unset]) X_313.here hx (hb hby at_279) rfl rfl rfl ?_
          refine s_aload (pc' := 283) X_313.here hx (hb hby at_281) rfl rfl rfl ?_
          refine s_aload (pc' := 285) X_313.here hx (hb hby at_283) rfl rfl rfl ?_
          obtain ⟨_, _, ⟨T_314, L_314, k_314, n_314⟩, -, X_314, ⟨Lc_314, hQ_314, l_314, y_314, z_314⟩, st_314⟩ := Jvm.LawKit.callS X_313 hx (y := (⟨"com/example/faithful_deputy/faithfuldeputy/Bits", "keepOnly", "([J[I)Z"⟩ : MethodName)) hown (mvT hZ (hw _ (List.mem_of_getElem? (i := 10) rfl))) (mvT hZ (hw _ (List.mem_of_getElem? (i := 11) rfl))) (mvT hZ (hw _ (List.mem_of_getElem? (i := 12) rfl))) (mvT hZ (hw _ (List.mem_of_getElem? (i := 13) rfl))) (by decide) (backOf (W := 0) (rm3_3 l Z a0 hw [] b_311 bl k_311 q0 q1 kk_302 nu0 nu1 nu2 h_313 n0 Zs V_b_311 V_bl g_b_311 ne_bl_b_311 (by omega)) hZ (hw _ (List.mem_of_getElem? (i := 13) rfl)) (hw _ (List.mem_of_getElem? (i := 12) rfl)) (by decide) (by decide)) (g := (mkF m 285 #[.val (.long q0), .second, .val (.long q1), .second, .val (.int p4), .val (.int p5), .val (.int nu0), .val (.int nu1), .val (.int nu2), .val (.int nu3), .val (.int (3 : Int32)), .val (.ref bl), .val (.long m0), .second, .val (.long m1), .second, .val (.ref b_311), .unset, .unset] [(.ref bl), (.ref b_311)])) rfl (by rw [hml]; rfl) (argsL := [(.ref b_311), (.ref bl)]) (rest := []) (lenOf pd_2 rfl) rfl (by show 2 * 0 + _ ≤ _; exact Nat.le_of_eq rfl) (hb hby at_285) (fun _ _ => ⟨rfl, e_313, (by decide : 2 + 0 ≤ _), (by decide : 5 + 0 ≤ _)⟩)
          dsimp only [Pt.U, Pt.locs, Pt.cells, Pt.slots] at X_314 l_314 y_314 z_314 st_314 hQ_314
          subst l_314 y_314 z_314
          obtain ⟨h_314, e_314⟩ : ∃ z, T_314.heap = z := ⟨_, rfl⟩
          rw [e_314] at hQ_314
          obtain ⟨Nq_314, K_314, n_314_V_b_311, r, rfl, hr⟩ := hQ_314
          replace Nf := Fr.app Nf Nq_314
          replace V_bl := V_bl.keep K_314 (ninS ne_bl_b_311 nin0)
          clear V_b_311
          replace E_b_311 := E_b_311.keep K_314
          replace lt_bl := Nat.lt_of_lt_of_le lt_bl K_314.1
          replace lt_b_311 := Nat.lt_of_lt_of_le lt_b_311 K_314.1
          replace Zs := Nat.le_trans Zs K_314.1
          have V_b_311 := n_314_V_b_311
          refine Win.go st_314 ?_
          clear st_314 Nq_314 X_313 e_313 K_314
          show Win p.tables e below _ (T_314.setTop (mkF m 288 #[.val (.long q0), .second, .val (.long q1), .second, .val (.int p4), .val (.int p5), .val (.int nu0), .val (.int nu1), .val (.int nu2), .val (.int nu3), .val (.int (3 : Int32)), .val (.ref bl), .val (.long m0), .second, .val (.long m1), .second, .val (.ref b_311), .unset, .unset] [(.int r)]))
          refine s_istore (pc' := 290) (l' := #[.val (.long q0), .second, .val (.long q1), .second, .val (.int p4), .val (.int p5), .val (.int nu0), .val (.int nu1), .val (.int nu2), .val (.int nu3), .val (.int (3 : Int32)), .val (.ref bl), .val (.long m0), .second, .val (.long m1), .second, .val (.ref b_311), .val (.int r), .unset]) X_314.here hx (hb hby at_288) rfl rfl ?_
          have em0 : ((((bit0 nu0) ||| (bit0 nu1)) ||| (bit0 nu2)) ||| (0 : Int64)) = m0 := by rw [← hm0, hz00, hz01, hz02]
          have em1 : ((((bit1 nu0) ||| (bit1 nu1)) ||| (bit1 nu2)) ||| (0 : Int64)) = m1 := by rw [← hm1, hz10, hz11, hz12]
          rw [em0, em1] at V_b_311 hr
          rw [Int64.zero_or] at hr
          refine s_lloadN (pc' := 291) X_314.here hx (hb hby at_290) rfl rfl ?_
          refine s_lload (pc' := 293) X_314.here hx (hb hby at_291) rfl rfl ?_
          refine Win.go (fun _ k => X_314.ldc2Long hx hown (mvT hZ (hw _ (List.mem_of_getElem? (i := 15) rfl))) (g := (mkF m 293 #[.val (.long q0), .second, .val (.long q1), .second, .val (.int p4), .val (.int p5), .val (.int nu0), .val (.int nu1), .val (.int nu2), .val (.int nu3), .val (.int (3 : Int32)), .val (.ref bl), .val (.long m0), .second, .val (.long m1), .second, .val (.ref b_311), .val (.int r), .unset] [(.long m0), (.long q0)])) rfl (hb hby at_293) _ k) ?_
          show Win p.tables e below _ (T_314.setTop (mkF m 296 #[.val (.long q0), .second, .val (.long q1), .second, .val (.int p4), .val (.int p5), .val (.int nu0), .val (.int nu1), .val (.int nu2), .val (.int nu3), .val (.int (3 : Int32)), .val (.ref bl), .val (.long m0), .second, .val (.long m1), .second, .val (.ref b_311), .val (.int r), .unset] [(.long (-1 : Int64)), (.long m0), (.long q0)]))
          refine s_lxor (pc' := 297) X_314.here hx (hb hby at_296) rfl ?_
          refine s_land (pc' := 298) X_314.here hx (hb hby at_297) rfl ?_
          refine s_lloadN (pc' := 299) X_314.here hx (hb hby at_298) rfl rfl ?_
          refine s_lload (pc' := 301) X_314.here hx (hb hby at_299) rfl rfl ?_
          refine Win.go (fun _ k => X_314.ldc2Long hx hown (mvT hZ (hw _ (List.mem_of_getElem? (i := 15) rfl))) (g := (mkF m 301 #[.val (.long q0), .second, .val (.long q1), .second, .val (.int p4), .val (.int p5), .val (.int nu0), .val (.int nu1), .val (.int nu2), .val (.int nu3), .val (.int (3 : Int32)), .val (.ref bl), .val (.long m0), .second, .val (.long m1), .second, .val (.ref b_311), .val (.int r), .unset] [(.long m1), (.long q1), (.long (q0 &&& (m0 ^^^ (-1 : Int64))))])) rfl (hb hby at_301) _ k) ?_
          show Win p.tables e below _ (T_314.setTop (mkF m 304 #[.val (.long q0), .second, .val (.long q1), .second, .val (.int p4), .val (.int p5), .val (.int nu0), .val (.int nu1), .val (.int nu2), .val (.int nu3), .val (.int (3 : Int32)), .val (.ref bl), .val (.long m0), .second, .val (.long m1), .second, .val (.ref b_311), .val (.int r), .unset] [(.long (-1 : Int64)), (.long m1), (.long q1), (.long (q0 &&& (m0 ^^^ (-1 : Int64))))]))
          refine s_lxor (pc' := 305) X_314.here hx (hb hby at_304) rfl ?_
          refine s_land (pc' := 306) X_314.here hx (hb hby at_305) rfl ?_
          refine s_lor (pc' := 307) X_314.here hx (hb hby at_306) rfl ?_
          refine s_lconst (pc' := 308) (z := (0 : Int64)) X_314.here hx (hb hby at_307) rfl rfl ?_
          refine s_lcmp (pc' := 309) X_314.here hx (hb hby at_308) rfl ?_
          by_cases hc309 : (((q0 &&& (m0 ^^^ (-1 : Int64))) ||| (q1 &&& (m1 ^^^ (-1 : Int64))))).toInt = (0 : Int)
          · skip
            refine s_ifYes (pc' := 316) X_314.here hx (hb hby at_309) (teqL (x := ((q0 &&& (m0 ^^^ (-1 : Int64))) ||| (q1 &&& (m1 ^^^ (-1 : Int64))))) (y := (0 : Int64)) hc309).1 (by decide) (by decide) ?_
            refine s_iconst (pc' := 317) (z := (0 : Int32)) X_314.here hx (hb hby at_316) rfl rfl ?_
            refine s_istore (pc' := 319) (l' := #[.val (.long q0), .second, .val (.long q1), .second, .val (.int p4), .val (.int p5), .val (.int nu0), .val (.int nu1), .val (.int nu2), .val (.int nu3), .val (.int (3 : Int32)), .val (.ref bl), .val (.long m0), .second, .val (.long m1), .second, .val (.ref b_311), .val (.int r), .val (.int (0 : Int32))]) X_314.here hx (hb hby at_317) rfl rfl ?_
            refine s_iload (pc' := 321) X_314.here hx (hb hby at_319) rfl rfl ?_
            refine s_iload (pc' := 323) X_314.here hx (hb hby at_321) rfl rfl ?_
            by_cases hc323 : (r).toInt = (0 : Int)
            · skip
              refine s_icmpNo (pc' := 326) X_314.here hx (hb hby at_323) rfl (teqI (x := r) (y := (0 : Int32)) hc323).2 ?_
              refine s_aload (pc' := 328) X_314.here hx (hb hby at_326) rfl rfl rfl ?_
              refine s_iconst (pc' := 329) (z := (0 : Int32)) X_314.here hx (hb hby at_328) rfl rfl ?_
              obtain ⟨cl_315, Ar_315, q_315, S_315, N_315, H_315, G_315⟩ := id V_b_311
              have hi_315 : ¬ ((0 : Int32) < 0 ∨ cl_315.slots.size ≤ ((0 : Int32)).toNatClampNeg) := inb_of S_315 ⟨by decide, by decide⟩
              refine Win.go (fun _ k => X_314.laload hx (j := (0 : Int32)) (v := (.long (q0 &&& m0))) (by rw [e_314]; exact Ar_315.1) (State.isArrayOf_alike hZ.alike Ar_315.2.1) Ar_315.2.2 hi_315 (H_315.at hi_315 rfl) (g := (mkF m 329 #[.val (.long q0), .second, .val (.long q1), .second, .val (.int p4), .val (.int p5), .val (.int nu0), .val (.int nu1), .val (.int nu2), .val (.int nu3), .val (.int (3 : Int32)), .val (.ref bl), .val (.long m0), .second, .val (.long m1), .second, .val (.ref b_311), .val (.int r), .val (.int (0 : Int32))] [(.int (0 : Int32)), (.ref b_311)])) rfl rfl (hb hby at_329) _ k) ?_
              show Win p.tables e below _ (T_314.setTop (mkF m 330 #[.val (.long q0), .second, .val (.long q1), .second, .val (.int p4), .val (.int p5), .val (.int nu0), .val (.int nu1), .val (.int nu2), .val (.int nu3), .val (.int (3 : Int32)), .val (.ref bl), .val (.long m0), .second, .val (.long m1), .second, .val (.ref b_311), .val (.int r), .val (.int (0 : Int32))] [(.long (q0 &&& m0))]))
              clear Ar_315 q_315 S_315 N_315 H_315 G_315 hi_315
              refine s_lloadN (pc' := 331) X_314.here hx (hb hby at_330) rfl rfl ?_
              refine s_lload (pc' := 333) X_314.here hx (hb hby at_331) rfl rfl ?_
              refine s_land (pc' := 334) X_314.here hx (hb hby at_333) rfl ?_
              refine s_lcmp (pc' := 335) X_314.here hx (hb hby at_334) rfl ?_
              refine s_ifNo (pc' := 338) X_314.here hx (hb hby at_335) rfl (teqL (x := (q0 &&& m0)) (y := (q0 &&& m0)) (rfl)).2 ?_
              refine s_aload (pc' := 340) X_314.here hx (hb hby at_338) rfl rfl rfl ?_
              refine s_iconst (pc' := 341) (z := (1 : Int32)) X_314.here hx (hb hby at_340) rfl rfl ?_
              obtain ⟨cl_316, Ar_316, q_316, S_316, N_316, H_316, G_316⟩ := id V_b_311
              have hi_316 : ¬ ((1 : Int32) < 0 ∨ cl_316.slots.size ≤ ((1 : Int32)).toNatClampNeg) := inb_of S_316 ⟨by decide, by decide⟩
              refine Win.go (fun _ k => X_314.laload hx (j := (1 : Int32)) (v := (.long (q1 &&& m1))) (by rw [e_314]; exact Ar_316.1) (State.isArrayOf_alike hZ.alike Ar_316.2.1) Ar_316.2.2 hi_316 (H_316.at hi_316 rfl) (g := (mkF m 341 #[.val (.long q0), .second, .val (.long q1), .second, .val (.int p4), .val (.int p5), .val (.int nu0), .val (.int nu1), .val (.int nu2), .val (.int nu3), .val (.int (3 : Int32)), .val (.ref bl), .val (.long m0), .second, .val (.long m1), .second, .val (.ref b_311), .val (.int r), .val (.int (0 : Int32))] [(.int (1 : Int32)), (.ref b_311)])) rfl rfl (hb hby at_341) _ k) ?_
              show Win p.tables e below _ (T_314.setTop (mkF m 342 #[.val (.long q0), .second, .val (.long q1), .second, .val (.int p4), .val (.int p5), .val (.int nu0), .val (.int nu1), .val (.int nu2), .val (.int nu3), .val (.int (3 : Int32)), .val (.ref bl), .val (.long m0), .second, .val (.long m1), .second, .val (.ref b_311), .val (.int r), .val (.int (0 : Int32))] [(.long (q1 &&& m1))]))
              clear Ar_316 q_316 S_316 N_316 H_316 G_316 hi_316
              refine s_lloadN (pc' := 343) X_314.here hx (hb hby at_342) rfl rfl ?_
              refine s_lload (pc' := 345) X_314.here hx (hb hby at_343) rfl rfl ?_
              refine s_land (pc' := 346) X_314.here hx (hb hby at_345) rfl ?_
              refine s_lcmp (pc' := 347) X_314.here hx (hb hby at_346) rfl ?_
              refine s_ifNo (pc' := 350) X_314.here hx (hb hby at_347) rfl (teqL (x := (q1 &&& m1)) (y := (q1 &&& m1)) (rfl)).2 ?_
              refine s_iconst (pc' := 351) (z := (1 : Int32)) X_314.here hx (hb hby at_350) rfl rfl ?_
              refine s_goto (pc' := 355) X_314.here hx (hb hby at_351) (by decide) (by decide) ?_
              refine winN X_314 hx hlk e_314 (t := .boolean) Bd.returns (by simp) (hb hby at_355) (by decide) (by decide) (z' := 1) rfl ⟨Nf, rfl⟩
            · skip
              refine s_icmpYes (pc' := 354) X_314.here hx (hb hby at_323) (feqI (x := r) (y := (0 : Int32)) hc323).2 (by decide) (by decide) ?_
              refine s_iconst (pc' := 355) (z := (0 : Int32)) X_314.here hx (hb hby at_354) rfl rfl ?_
              exfalso
              omega
          · skip
            refine s_ifNo (pc' := 312) X_314.here hx (hb hby at_309) rfl (feqL (x := ((q0 &&& (m0 ^^^ (-1 : Int64))) ||| (q1 &&& (m1 ^^^ (-1 : Int64))))) (y := (0 : Int64)) hc309).1 ?_
            refine s_iconst (pc' := 313) (z := (1 : Int32)) X_314.here hx (hb hby at_312) rfl rfl ?_
            refine s_goto (pc' := 317) X_314.here hx (hb hby at_313) (by decide) (by decide) ?_
            refine s_istore (pc' := 319) (l' := #[.val (.long q0), .second, .val (.long q1), .second, .val (.int p4), .val (.int p5), .val (.int nu0), .val (.int nu1), .val (.int nu2), .val (.int nu3), .val (.int (3 : Int32)), .val (.ref bl), .val (.long m0), .second, .val (.long m1), .second, .val (.ref b_311), .val (.int r), .val (.int (1 : Int32))]) X_314.here hx (hb hby at_317) rfl rfl ?_
            refine s_iload (pc' := 321) X_314.here hx (hb hby at_319) rfl rfl ?_
            refine s_iload (pc' := 323) X_314.here hx (hb hby at_321) rfl rfl ?_
            by_cases hc323 : (r).toInt = (1 : Int)
            · skip
              refine s_icmpNo (pc' := 326) X_314.here hx (hb hby at_323) rfl (teqI (x := r) (y := (1 : Int32)) hc323).2 ?_
              refine s_aload (pc' := 328) X_314.here hx (hb hby at_326) rfl rfl rfl ?_
              refine s_iconst (pc' := 329) (z := (0 : Int32)) X_314.here hx (hb hby at_328) rfl rfl ?_
              obtain ⟨cl_317, Ar_317, q_317, S_317, N_317, H_317, G_317⟩ := id V_b_311
              have hi_317 : ¬ ((0 : Int32) < 0 ∨ cl_317.slots.size ≤ ((0 : Int32)).toNatClampNeg) := inb_of S_317 ⟨by decide, by decide⟩
              refine Win.go (fun _ k => X_314.laload hx (j := (0 : Int32)) (v := (.long (q0 &&& m0))) (by rw [e_314]; exact Ar_317.1) (State.isArrayOf_alike hZ.alike Ar_317.2.1) Ar_317.2.2 hi_317 (H_317.at hi_317 rfl) (g := (mkF m 329 #[.val (.long q0), .second, .val (.long q1), .second, .val (.int p4), .val (.int p5), .val (.int nu0), .val (.int nu1), .val (.int nu2), .val (.int nu3), .val (.int (3 : Int32)), .val (.ref bl), .val (.long m0), .second, .val (.long m1), .second, .val (.ref b_311), .val (.int r), .val (.int (1 : Int32))] [(.int (0 : Int32)), (.ref b_311)])) rfl rfl (hb hby at_329) _ k) ?_
              show Win p.tables e below _ (T_314.setTop (mkF m 330 #[.val (.long q0), .second, .val (.long q1), .second, .val (.int p4), .val (.int p5), .val (.int nu0), .val (.int nu1), .val (.int nu2), .val (.int nu3), .val (.int (3 : Int32)), .val (.ref bl), .val (.long m0), .second, .val (.long m1), .second, .val (.ref b_311), .val (.int r), .val (.int (1 : Int32))] [(.long (q0 &&& m0))]))
              clear Ar_317 q_317 S_317 N_317 H_317 G_317 hi_317
              refine s_lloadN (pc' := 331) X_314.here hx (hb hby at_330) rfl rfl ?_
              refine s_lload (pc' := 333) X_314.here hx (hb hby at_331) rfl rfl ?_
              refine s_land (pc' := 334) X_314.here hx (hb hby at_333) rfl ?_
              refine s_lcmp (pc' := 335) X_314.here hx (hb hby at_334) rfl ?_
              refine s_ifNo (pc' := 338) X_314.here hx (hb hby at_335) rfl (teqL (x := (q0 &&& m0)) (y := (q0 &&& m0)) (rfl)).2 ?_
              refine s_aload (pc' := 340) X_314.here hx (hb hby at_338) rfl rfl rfl ?_
              refine s_iconst (pc' := 341) (z := (1 : Int32)) X_314.here hx (hb hby at_340) rfl rfl ?_
              obtain ⟨cl_318, Ar_318, q_318, S_318, N_318, H_318, G_318⟩ := id V_b_311
              have hi_318 : ¬ ((1 : Int32) < 0 ∨ cl_318.slots.size ≤ ((1 : Int32)).toNatClampNeg) := inb_of S_318 ⟨by decide, by decide⟩
              refine Win.go (fun _ k => X_314.laload hx (j := (1 : Int32)) (v := (.long (q1 &&& m1))) (by rw [e_314]; exact Ar_318.1) (State.isArrayOf_alike hZ.alike Ar_318.2.1) Ar_318.2.2 hi_318 (H_318.at hi_318 rfl) (g := (mkF m 341 #[.val (.long q0), .second, .val (.long q1), .second, .val (.int p4), .val (.int p5), .val (.int nu0), .val (.int nu1), .val (.int nu2), .val (.int nu3), .val (.int (3 : Int32)), .val (.ref bl), .val (.long m0), .second, .val (.long m1), .second, .val (.ref b_311), .val (.int r), .val (.int (1 : Int32))] [(.int (1 : Int32)), (.ref b_311)])) rfl rfl (hb hby at_341) _ k) ?_
              show Win p.tables e below _ (T_314.setTop (mkF m 342 #[.val (.long q0), .second, .val (.long q1), .second, .val (.int p4), .val (.int p5), .val (.int nu0), .val (.int nu1), .val (.int nu2), .val (.int nu3), .val (.int (3 : Int32)), .val (.ref bl), .val (.long m0), .second, .val (.long m1), .second, .val (.ref b_311), .val (.int r), .val (.int (1 : Int32))] [(.long (q1 &&& m1))]))
              clear Ar_318 q_318 S_318 N_318 H_318 G_318 hi_318
              refine s_lloadN (pc' := 343) X_314.here hx (hb hby at_342) rfl rfl ?_
              refine s_lload (pc' := 345) X_314.here hx (hb hby at_343) rfl rfl ?_
              refine s_land (pc' := 346) X_314.here hx (hb hby at_345) rfl ?_
              refine s_lcmp (pc' := 347) X_314.here hx (hb hby at_346) rfl ?_
              refine s_ifNo (pc' := 350) X_314.here hx (hb hby at_347) rfl (teqL (x := (q1 &&& m1)) (y := (q1 &&& m1)) (rfl)).2 ?_
              refine s_iconst (pc' := 351) (z := (1 : Int32)) X_314.here hx (hb hby at_350) rfl rfl ?_
              refine s_goto (pc' := 355) X_314.here hx (hb hby at_351) (by decide) (by decide) ?_
              refine winN X_314 hx hlk e_314 (t := .boolean) Bd.returns (by simp) (hb hby at_355) (by decide) (by decide) (z' := 1) rfl ⟨Nf, rfl⟩
            · skip
              refine s_icmpYes (pc' := 354) X_314.here hx (hb hby at_323) (feqI (x := r) (y := (1 : Int32)) hc323).2 (by decide) (by decide) ?_
              refine s_iconst (pc' := 355) (z := (0 : Int32)) X_314.here hx (hb hby at_354) rfl rfl ?_
              exfalso
              omega
        · skip
          show Win p.tables e below _ (TJ109.setTop (mkF m 109 #[.val (.long q0), .second, .val (.long q1), .second, .val (.int p4), .val (.int p5), .val (.int nu0), .val (.int nu1), .val (.int nu2), .val (.int nu3), .val (.int (4 : Int32)), .unset, .unset, .unset, .unset, .unset, .unset, .unset, .unset] []))
          have hcl : ((4 : Int32)).toInt = 4 := rfl
          rw [hcl] at hJ109
          refine s_iload (pc' := 111) XJ109.here hx (hb hby at_109) rfl rfl ?_
          refine s_iload (pc' := 113) XJ109.here hx (hb hby at_111) rfl rfl ?_
          refine s_iload (pc' := 115) XJ109.here hx (hb hby at_113) rfl rfl ?_
          refine s_iload (pc' := 117) XJ109.here hx (hb hby at_115) rfl rfl ?_
          refine s_iload (pc' := 119) XJ109.here hx (hb hby at_117) rfl rfl ?_
          obtain ⟨_, _, ⟨T_319, L_319, k_319, n_319⟩, -, X_319, ⟨Lc_319, hQ_319, l_319, y_319, z_319⟩, st_319⟩ := Jvm.LawKit.callS XJ109 hx (y := (⟨"com/example/faithful_deputy/faithfuldeputy/BitsKeepOnlyPinLaw", "list", "(IIIII)[I"⟩ : MethodName)) hown (mvT hZ (hw _ (List.mem_of_getElem? (i := 1) rfl))) (mvT hZ (hw _ (List.mem_of_getElem? (i := 2) rfl))) (mvT hZ (hw _ (List.mem_of_getElem? (i := 3) rfl))) (mvT hZ (hw _ (List.mem_of_getElem? (i := 4) rfl))) (by decide) (backOf (W := 0) (rm1_4 l Z a0 hw [] nu0 nu1 nu2 nu3 h0 n0 Zs ) hZ (hw _ (List.mem_of_getElem? (i := 4) rfl)) (hw _ (List.mem_of_getElem? (i := 3) rfl)) (by decide) (by decide)) (g := (mkF m 119 #[.val (.long q0), .second, .val (.long q1), .second, .val (.int p4), .val (.int p5), .val (.int nu0), .val (.int nu1), .val (.int nu2), .val (.int nu3), .val (.int (4 : Int32)), .unset, .unset, .unset, .unset, .unset, .unset, .unset, .unset] [(.int nu3), (.int nu2), (.int nu1), (.int nu0), (.int (4 : Int32))])) rfl (by rw [hml]; rfl) (argsL := [(.int (4 : Int32)), (.int nu0), (.int nu1), (.int nu2), (.int nu3)]) (rest := []) (lenOf pd_0 rfl) rfl (by show 2 * 0 + _ ≤ _; exact Nat.le_of_eq rfl) (hb hby at_119) (fun _ _ => ⟨rfl, eJ109, (by decide : 0 + 1 ≤ _), (by decide : 0 + 4 ≤ _)⟩)
          dsimp only [Pt.U, Pt.locs, Pt.cells, Pt.slots] at X_319 l_319 y_319 z_319 st_319 hQ_319
          subst l_319 y_319 z_319
          obtain ⟨h_319, e_319⟩ : ∃ z, T_319.heap = z := ⟨_, rfl⟩
          rw [e_319] at hQ_319
          obtain ⟨Nq_319, K_319, bl, kk_319, rfl, g_bl, so_319, n_319_V_bl⟩ := hQ_319
          replace Nf := Fr.app Nf Nq_319
          replace Zs := Nat.le_trans Zs K_319.1
          have V_bl := n_319_V_bl
          have lt_bl := V_bl.lt
          refine Win.go st_319 ?_
          clear st_319 Nq_319 XJ109 eJ109 K_319
          show Win p.tables e below _ (T_319.setTop (mkF m 122 #[.val (.long q0), .second, .val (.long q1), .second, .val (.int p4), .val (.int p5), .val (.int nu0), .val (.int nu1), .val (.int nu2), .val (.int nu3), .val (.int (4 : Int32)), .unset, .unset, .unset, .unset, .unset, .unset, .unset, .unset] [(.ref bl)]))
          refine s_astore (pc' := 124) (l' := #[.val (.long q0), .second, .val (.long q1), .second, .val (.int p4), .val (.int p5), .val (.int nu0), .val (.int nu1), .val (.int nu2), .val (.int nu3), .val (.int (4 : Int32)), .val (.ref bl), .unset, .unset, .unset, .unset, .unset, .unset, .unset]) X_319.here hx (hb hby at_122) rfl rfl rfl ?_
          refine s_iload (pc' := 126) X_319.here hx (hb hby at_124) rfl rfl ?_
          refine s_iconst (pc' := 127) (z := (0 : Int32)) X_319.here hx (hb hby at_126) rfl rfl ?_
          refine s_iload (pc' := 129) X_319.here hx (hb hby at_127) rfl rfl ?_
          refine s_ifNo (pc' := 132) X_319.here hx (hb hby at_129) rfl ((if0 _ _).trans (tltI (x := (0 : Int32)) (y := (4 : Int32)) (by decide)).2.2.2) ?_
          refine s_iconst (pc' := 133) (z := (1 : Int32)) X_319.here hx (hb hby at_132) rfl rfl ?_
          refine s_goto (pc' := 137) X_319.here hx (hb hby at_133) (by decide) (by decide) ?_
          obtain ⟨_, _, ⟨T_320, L_320, k_320, n_320⟩, -, X_320, ⟨Lc_320, hQ_320, l_320, y_320, z_320⟩, st_320⟩ := Jvm.LawKit.callS X_319 hx (y := (⟨"com/example/faithful_deputy/faithfuldeputy/BitsKeepOnlyPinLaw", "bitIn", "(IIZ)J"⟩ : MethodName)) hown (mvT hZ (hw _ (List.mem_of_getElem? (i := 6) rfl))) (mvT hZ (hw _ (List.mem_of_getElem? (i := 7) rfl))) (mvT hZ (hw _ (List.mem_of_getElem? (i := 3) rfl))) (mvT hZ (hw _ (List.mem_of_getElem? (i := 8) rfl))) (by decide) (backOf (W := 0) (rm2_0_1 l Z a0 hw [] nu0 h_319 n0 Zs ) hZ (hw _ (List.mem_of_getElem? (i := 8) rfl)) (hw _ (List.mem_of_getElem? (i := 3) rfl)) (by decide) (by decide)) (g := (mkF m 137 #[.val (.long q0), .second, .val (.long q1), .second, .val (.int p4), .val (.int p5), .val (.int nu0), .val (.int nu1), .val (.int nu2), .val (.int nu3), .val (.int (4 : Int32)), .val (.ref bl), .unset, .unset, .unset, .unset, .unset, .unset, .unset] [(.int (1 : Int32)), (.int (0 : Int32)), (.int nu0)])) rfl (by rw [hml]; rfl) (argsL := [(.int nu0), (.int (0 : Int32)), (.int (1 : Int32))]) (rest := []) (lenOf pd_1 rfl) rfl (by show 2 * 0 + _ ≤ _; exact Nat.le_of_eq rfl) (hb hby at_137) (fun _ _ => ⟨rfl, e_319, (by decide : 1 + 0 ≤ _), (by decide : 4 + 0 ≤ _)⟩)
          dsimp only [Pt.U, Pt.locs, Pt.cells, Pt.slots] at X_320 l_320 y_320 z_320 st_320 hQ_320
          subst l_320 y_320 z_320
          obtain ⟨Nq_320, e_320, z00, rfl, hz00⟩ := hQ_320
          replace Nf := Fr.app Nf Nq_320
          refine Win.go st_320 ?_
          clear st_320 Nq_320 X_319 e_319
          show Win p.tables e below _ (T_320.setTop (mkF m 140 #[.val (.long q0), .second, .val (.long q1), .second, .val (.int p4), .val (.int p5), .val (.int nu0), .val (.int nu1), .val (.int nu2), .val (.int nu3), .val (.int (4 : Int32)), .val (.ref bl), .unset, .unset, .unset, .unset, .unset, .unset, .unset] [(.long z00)]))
          refine s_iload (pc' := 142) X_320.here hx (hb hby at_140) rfl rfl ?_
          refine s_iconst (pc' := 143) (z := (0 : Int32)) X_320.here hx (hb hby at_142) rfl rfl ?_
          refine s_iload (pc' := 145) X_320.here hx (hb hby at_143) rfl rfl ?_
          refine s_iconst (pc' := 146) (z := (1 : Int32)) X_320.here hx (hb hby at_145) rfl rfl ?_
          refine s_icmpNo (pc' := 149) X_320.here hx (hb hby at_146) rfl (tltI (x := (1 : Int32)) (y := (4 : Int32)) (by decide)).2.2.2 ?_
          refine s_iconst (pc' := 150) (z := (1 : Int32)) X_320.here hx (hb hby at_149) rfl rfl ?_
          refine s_goto (pc' := 154) X_320.here hx (hb hby at_150) (by decide) (by decide) ?_
          obtain ⟨_, _, ⟨T_321, L_321, k_321, n_321⟩, -, X_321, ⟨Lc_321, hQ_321, l_321, y_321, z_321⟩, st_321⟩ := Jvm.LawKit.callS X_320 hx (y := (⟨"com/example/faithful_deputy/faithfuldeputy/BitsKeepOnlyPinLaw", "bitIn", "(IIZ)J"⟩ : MethodName)) hown (mvT hZ (hw _ (List.mem_of_getElem? (i := 6) rfl))) (mvT hZ (hw _ (List.mem_of_getElem? (i := 7) rfl))) (mvT hZ (hw _ (List.mem_of_getElem? (i := 3) rfl))) (mvT hZ (hw _ (List.mem_of_getElem? (i := 8) rfl))) (by decide) (backOf (W := 2) (rm2_0_1 l Z a0 hw [] nu1 h_319 n0 Zs ) hZ (hw _ (List.mem_of_getElem? (i := 8) rfl)) (hw _ (List.mem_of_getElem? (i := 3) rfl)) (by decide) (by decide)) (g := (mkF m 154 #[.val (.long q0), .second, .val (.long q1), .second, .val (.int p4), .val (.int p5), .val (.int nu0), .val (.int nu1), .val (.int nu2), .val (.int nu3), .val (.int (4 : Int32)), .val (.ref bl), .unset, .unset, .unset, .unset, .unset, .unset, .unset] [(.int (1 : Int32)), (.int (0 : Int32)), (.int nu1), (.long z00)])) rfl (by rw [hml]; rfl) (argsL := [(.int nu1), (.int (0 : Int32)), (.int (1 : Int32))]) (rest := [(.long z00)]) (lenOf pd_1 rfl) rfl (by show 2 * 0 + _ ≤ _; exact Nat.le_of_eq rfl) (hb hby at_154) (fun _ _ => ⟨rfl, e_320, (by decide : 1 + 0 ≤ _), (by decide : 4 + 0 ≤ _)⟩)
          dsimp only [Pt.U, Pt.locs, Pt.cells, Pt.slots] at X_321 l_321 y_321 z_321 st_321 hQ_321
          subst l_321 y_321 z_321
          obtain ⟨Nq_321, e_321, z01, rfl, hz01⟩ := hQ_321
          replace Nf := Fr.app Nf Nq_321
          refine Win.go st_321 ?_
          clear st_321 Nq_321 X_320 e_320
          show Win p.tables e below _ (T_321.setTop (mkF m 157 #[.val (.long q0), .second, .val (.long q1), .second, .val (.int p4), .val (.int p5), .val (.int nu0), .val (.int nu1), .val (.int nu2), .val (.int nu3), .val (.int (4 : Int32)), .val (.ref bl), .unset, .unset, .unset, .unset, .unset, .unset, .unset] [(.long z01), (.long z00)]))
          refine s_lor (pc' := 158) X_321.here hx (hb hby at_157) rfl ?_
          refine s_iload (pc' := 160) X_321.here hx (hb hby at_158) rfl rfl ?_
          refine s_iconst (pc' := 161) (z := (0 : Int32)) X_321.here hx (hb hby at_160) rfl rfl ?_
          refine s_iload (pc' := 163) X_321.here hx (hb hby at_161) rfl rfl ?_
          refine s_iconst (pc' := 164) (z := (2 : Int32)) X_321.here hx (hb hby at_163) rfl rfl ?_
          refine s_icmpNo (pc' := 167) X_321.here hx (hb hby at_164) rfl (tltI (x := (2 : Int32)) (y := (4 : Int32)) (by decide)).2.2.2 ?_
          refine s_iconst (pc' := 168) (z := (1 : Int32)) X_321.here hx (hb hby at_167) rfl rfl ?_
          refine s_goto (pc' := 172) X_321.here hx (hb hby at_168) (by decide) (by decide) ?_
          obtain ⟨_, _, ⟨T_322, L_322, k_322, n_322⟩, -, X_322, ⟨Lc_322, hQ_322, l_322, y_322, z_322⟩, st_322⟩ := Jvm.LawKit.callS X_321 hx (y := (⟨"com/example/faithful_deputy/faithfuldeputy/BitsKeepOnlyPinLaw", "bitIn", "(IIZ)J"⟩ : MethodName)) hown (mvT hZ (hw _ (List.mem_of_getElem? (i := 6) rfl))) (mvT hZ (hw _ (List.mem_of_getElem? (i := 7) rfl))) (mvT hZ (hw _ (List.mem_of_getElem? (i := 3) rfl))) (mvT hZ (hw _ (List.mem_of_getElem? (i := 8) rfl))) (by decide) (backOf (W := 2) (rm2_0_1 l Z a0 hw [] nu2 h_319 n0 Zs ) hZ (hw _ (List.mem_of_getElem? (i := 8) rfl)) (hw _ (List.mem_of_getElem? (i := 3) rfl)) (by decide) (by decide)) (g := (mkF m 172 #[.val (.long q0), .second, .val (.long q1), .second, .val (.int p4), .val (.int p5), .val (.int nu0), .val (.int nu1), .val (.int nu2), .val (.int nu3), .val (.int (4 : Int32)), .val (.ref bl), .unset, .unset, .unset, .unset, .unset, .unset, .unset] [(.int (1 : Int32)), (.int (0 : Int32)), (.int nu2), (.long (z00 ||| z01))])) rfl (by rw [hml]; rfl) (argsL := [(.int nu2), (.int (0 : Int32)), (.int (1 : Int32))]) (rest := [(.long (z00 ||| z01))]) (lenOf pd_1 rfl) rfl (by show 2 * 0 + _ ≤ _; exact Nat.le_of_eq rfl) (hb hby at_172) (fun _ _ => ⟨rfl, e_321, (by decide : 1 + 0 ≤ _), (by decide : 4 + 0 ≤ _)⟩)
          dsimp only [Pt.U, Pt.locs, Pt.cells, Pt.slots] at X_322 l_322 y_322 z_322 st_322 hQ_322
          subst l_322 y_322 z_322
          obtain ⟨Nq_322, e_322, z02, rfl, hz02⟩ := hQ_322
          replace Nf := Fr.app Nf Nq_322
          refine Win.go st_322 ?_
          clear st_322 Nq_322 X_321 e_321
          show Win p.tables e below _ (T_322.setTop (mkF m 175 #[.val (.long q0), .second, .val (.long q1), .second, .val (.int p4), .val (.int p5), .val (.int nu0), .val (.int nu1), .val (.int nu2), .val (.int nu3), .val (.int (4 : Int32)), .val (.ref bl), .unset, .unset, .unset, .unset, .unset, .unset, .unset] [(.long z02), (.long (z00 ||| z01))]))
          refine s_lor (pc' := 176) X_322.here hx (hb hby at_175) rfl ?_
          refine s_iload (pc' := 178) X_322.here hx (hb hby at_176) rfl rfl ?_
          refine s_iconst (pc' := 179) (z := (0 : Int32)) X_322.here hx (hb hby at_178) rfl rfl ?_
          refine s_iload (pc' := 181) X_322.here hx (hb hby at_179) rfl rfl ?_
          refine s_iconst (pc' := 182) (z := (3 : Int32)) X_322.here hx (hb hby at_181) rfl rfl ?_
          refine s_icmpNo (pc' := 185) X_322.here hx (hb hby at_182) rfl (tltI (x := (3 : Int32)) (y := (4 : Int32)) (by decide)).2.2.2 ?_
          refine s_iconst (pc' := 186) (z := (1 : Int32)) X_322.here hx (hb hby at_185) rfl rfl ?_
          refine s_goto (pc' := 190) X_322.here hx (hb hby at_186) (by decide) (by decide) ?_
          obtain ⟨_, _, ⟨T_323, L_323, k_323, n_323⟩, -, X_323, ⟨Lc_323, hQ_323, l_323, y_323, z_323⟩, st_323⟩ := Jvm.LawKit.callS X_322 hx (y := (⟨"com/example/faithful_deputy/faithfuldeputy/BitsKeepOnlyPinLaw", "bitIn", "(IIZ)J"⟩ : MethodName)) hown (mvT hZ (hw _ (List.mem_of_getElem? (i := 6) rfl))) (mvT hZ (hw _ (List.mem_of_getElem? (i := 7) rfl))) (mvT hZ (hw _ (List.mem_of_getElem? (i := 3) rfl))) (mvT hZ (hw _ (List.mem_of_getElem? (i := 8) rfl))) (by decide) (backOf (W := 2) (rm2_0_1 l Z a0 hw [] nu3 h_319 n0 Zs ) hZ (hw _ (List.mem_of_getElem? (i := 8) rfl)) (hw _ (List.mem_of_getElem? (i := 3) rfl)) (by decide) (by decide)) (g := (mkF m 190 #[.val (.long q0), .second, .val (.long q1), .second, .val (.int p4), .val (.int p5), .val (.int nu0), .val (.int nu1), .val (.int nu2), .val (.int nu3), .val (.int (4 : Int32)), .val (.ref bl), .unset, .unset, .unset, .unset, .unset, .unset, .unset] [(.int (1 : Int32)), (.int (0 : Int32)), (.int nu3), (.long ((z00 ||| z01) ||| z02))])) rfl (by rw [hml]; rfl) (argsL := [(.int nu3), (.int (0 : Int32)), (.int (1 : Int32))]) (rest := [(.long ((z00 ||| z01) ||| z02))]) (lenOf pd_1 rfl) rfl (by show 2 * 0 + _ ≤ _; exact Nat.le_of_eq rfl) (hb hby at_190) (fun _ _ => ⟨rfl, e_322, (by decide : 1 + 0 ≤ _), (by decide : 4 + 0 ≤ _)⟩)
          dsimp only [Pt.U, Pt.locs, Pt.cells, Pt.slots] at X_323 l_323 y_323 z_323 st_323 hQ_323
          subst l_323 y_323 z_323
          obtain ⟨Nq_323, e_323, z03, rfl, hz03⟩ := hQ_323
          replace Nf := Fr.app Nf Nq_323
          refine Win.go st_323 ?_
          clear st_323 Nq_323 X_322 e_322
          show Win p.tables e below _ (T_323.setTop (mkF m 193 #[.val (.long q0), .second, .val (.long q1), .second, .val (.int p4), .val (.int p5), .val (.int nu0), .val (.int nu1), .val (.int nu2), .val (.int nu3), .val (.int (4 : Int32)), .val (.ref bl), .unset, .unset, .unset, .unset, .unset, .unset, .unset] [(.long z03), (.long ((z00 ||| z01) ||| z02))]))
          refine s_lor (pc' := 194) X_323.here hx (hb hby at_193) rfl ?_
          refine s_lstore (pc' := 196) (l' := #[.val (.long q0), .second, .val (.long q1), .second, .val (.int p4), .val (.int p5), .val (.int nu0), .val (.int nu1), .val (.int nu2), .val (.int nu3), .val (.int (4 : Int32)), .val (.ref bl), .val (.long (((z00 ||| z01) ||| z02) ||| z03)), .second, .unset, .unset, .unset, .unset, .unset]) X_323.here hx (hb hby at_194) rfl rfl ?_
          generalize hm0 : (((z00 ||| z01) ||| z02) ||| z03) = m0
          show Win p.tables e below _ (T_323.setTop (mkF m 196 #[.val (.long q0), .second, .val (.long q1), .second, .val (.int p4), .val (.int p5), .val (.int nu0), .val (.int nu1), .val (.int nu2), .val (.int nu3), .val (.int (4 : Int32)), .val (.ref bl), .val (.long m0), .second, .unset, .unset, .unset, .unset, .unset] []))
          refine s_iload (pc' := 198) X_323.here hx (hb hby at_196) rfl rfl ?_
          refine s_iconst (pc' := 199) (z := (1 : Int32)) X_323.here hx (hb hby at_198) rfl rfl ?_
          refine s_iload (pc' := 201) X_323.here hx (hb hby at_199) rfl rfl ?_
          refine s_ifNo (pc' := 204) X_323.here hx (hb hby at_201) rfl ((if0 _ _).trans (tltI (x := (0 : Int32)) (y := (4 : Int32)) (by decide)).2.2.2) ?_
          refine s_iconst (pc' := 205) (z := (1 : Int32)) X_323.here hx (hb hby at_204) rfl rfl ?_
          refine s_goto (pc' := 209) X_323.here hx (hb hby at_205) (by decide) (by decide) ?_
          obtain ⟨_, _, ⟨T_324, L_324, k_324, n_324⟩, -, X_324, ⟨Lc_324, hQ_324, l_324, y_324, z_324⟩, st_324⟩ := Jvm.LawKit.callS X_323 hx (y := (⟨"com/example/faithful_deputy/faithfuldeputy/BitsKeepOnlyPinLaw", "bitIn", "(IIZ)J"⟩ : MethodName)) hown (mvT hZ (hw _ (List.mem_of_getElem? (i := 6) rfl))) (mvT hZ (hw _ (List.mem_of_getElem? (i := 7) rfl))) (mvT hZ (hw _ (List.mem_of_getElem? (i := 3) rfl))) (mvT hZ (hw _ (List.mem_of_getElem? (i := 8) rfl))) (by decide) (backOf (W := 0) (rm2_1_1 l Z a0 hw [] nu0 h_319 n0 Zs ) hZ (hw _ (List.mem_of_getElem? (i := 8) rfl)) (hw _ (List.mem_of_getElem? (i := 3) rfl)) (by decide) (by decide)) (g := (mkF m 209 #[.val (.long q0), .second, .val (.long q1), .second, .val (.int p4), .val (.int p5), .val (.int nu0), .val (.int nu1), .val (.int nu2), .val (.int nu3), .val (.int (4 : Int32)), .val (.ref bl), .val (.long m0), .second, .unset, .unset, .unset, .unset, .unset] [(.int (1 : Int32)), (.int (1 : Int32)), (.int nu0)])) rfl (by rw [hml]; rfl) (argsL := [(.int nu0), (.int (1 : Int32)), (.int (1 : Int32))]) (rest := []) (lenOf pd_1 rfl) rfl (by show 2 * 0 + _ ≤ _; exact Nat.le_of_eq rfl) (hb hby at_209) (fun _ _ => ⟨rfl, e_323, (by decide : 1 + 0 ≤ _), (by decide : 4 + 0 ≤ _)⟩)
          dsimp only [Pt.U, Pt.locs, Pt.cells, Pt.slots] at X_324 l_324 y_324 z_324 st_324 hQ_324
          subst l_324 y_324 z_324
          obtain ⟨Nq_324, e_324, z10, rfl, hz10⟩ := hQ_324
          replace Nf := Fr.app Nf Nq_324
          refine Win.go st_324 ?_
          clear st_324 Nq_324 X_323 e_323
          show Win p.tables e below _ (T_324.setTop (mkF m 212 #[.val (.long q0), .second, .val (.long q1), .second, .val (.int p4), .val (.int p5), .val (.int nu0), .val (.int nu1), .val (.int nu2), .val (.int nu3), .val (.int (4 : Int32)), .val (.ref bl), .val (.long m0), .second, .unset, .unset, .unset, .unset, .unset] [(.long z10)]))
          refine s_iload (pc' := 214) X_324.here hx (hb hby at_212) rfl rfl ?_
          refine s_iconst (pc' := 215) (z := (1 : Int32)) X_324.here hx (hb hby at_214) rfl rfl ?_
          refine s_iload (pc' := 217) X_324.here hx (hb hby at_215) rfl rfl ?_
          refine s_iconst (pc' := 218) (z := (1 : Int32)) X_324.here hx (hb hby at_217) rfl rfl ?_
          refine s_icmpNo (pc' := 221) X_324.here hx (hb hby at_218) rfl (tltI (x := (1 : Int32)) (y := (4 : Int32)) (by decide)).2.2.2 ?_
          refine s_iconst (pc' := 222) (z := (1 : Int32)) X_324.here hx (hb hby at_221) rfl rfl ?_
          refine s_goto (pc' := 226) X_324.here hx (hb hby at_222) (by decide) (by decide) ?_
          obtain ⟨_, _, ⟨T_325, L_325, k_325, n_325⟩, -, X_325, ⟨Lc_325, hQ_325, l_325, y_325, z_325⟩, st_325⟩ := Jvm.LawKit.callS X_324 hx (y := (⟨"com/example/faithful_deputy/faithfuldeputy/BitsKeepOnlyPinLaw", "bitIn", "(IIZ)J"⟩ : MethodName)) hown (mvT hZ (hw _ (List.mem_of_getElem? (i := 6) rfl))) (mvT hZ (hw _ (List.mem_of_getElem? (i := 7) rfl))) (mvT hZ (hw _ (List.mem_of_getElem? (i := 3) rfl))) (mvT hZ (hw _ (List.mem_of_getElem? (i := 8) rfl))) (by decide) (backOf (W := 2) (rm2_1_1 l Z a0 hw [] nu1 h_319 n0 Zs ) hZ (hw _ (List.mem_of_getElem? (i := 8) rfl)) (hw _ (List.mem_of_getElem? (i := 3) rfl)) (by decide) (by decide)) (g := (mkF m 226 #[.val (.long q0), .second, .val (.long q1), .second, .val (.int p4), .val (.int p5), .val (.int nu0), .val (.int nu1), .val (.int nu2), .val (.int nu3), .val (.int (4 : Int32)), .val (.ref bl), .val (.long m0), .second, .unset, .unset, .unset, .unset, .unset] [(.int (1 : Int32)), (.int (1 : Int32)), (.int nu1), (.long z10)])) rfl (by rw [hml]; rfl) (argsL := [(.int nu1), (.int (1 : Int32)), (.int (1 : Int32))]) (rest := [(.long z10)]) (lenOf pd_1 rfl) rfl (by show 2 * 0 + _ ≤ _; exact Nat.le_of_eq rfl) (hb hby at_226) (fun _ _ => ⟨rfl, e_324, (by decide : 1 + 0 ≤ _), (by decide : 4 + 0 ≤ _)⟩)
          dsimp only [Pt.U, Pt.locs, Pt.cells, Pt.slots] at X_325 l_325 y_325 z_325 st_325 hQ_325
          subst l_325 y_325 z_325
          obtain ⟨Nq_325, e_325, z11, rfl, hz11⟩ := hQ_325
          replace Nf := Fr.app Nf Nq_325
          refine Win.go st_325 ?_
          clear st_325 Nq_325 X_324 e_324
          show Win p.tables e below _ (T_325.setTop (mkF m 229 #[.val (.long q0), .second, .val (.long q1), .second, .val (.int p4), .val (.int p5), .val (.int nu0), .val (.int nu1), .val (.int nu2), .val (.int nu3), .val (.int (4 : Int32)), .val (.ref bl), .val (.long m0), .second, .unset, .unset, .unset, .unset, .unset] [(.long z11), (.long z10)]))
          refine s_lor (pc' := 230) X_325.here hx (hb hby at_229) rfl ?_
          refine s_iload (pc' := 232) X_325.here hx (hb hby at_230) rfl rfl ?_
          refine s_iconst (pc' := 233) (z := (1 : Int32)) X_325.here hx (hb hby at_232) rfl rfl ?_
          refine s_iload (pc' := 235) X_325.here hx (hb hby at_233) rfl rfl ?_
          refine s_iconst (pc' := 236) (z := (2 : Int32)) X_325.here hx (hb hby at_235) rfl rfl ?_
          refine s_icmpNo (pc' := 239) X_325.here hx (hb hby at_236) rfl (tltI (x := (2 : Int32)) (y := (4 : Int32)) (by decide)).2.2.2 ?_
          refine s_iconst (pc' := 240) (z := (1 : Int32)) X_325.here hx (hb hby at_239) rfl rfl ?_
          refine s_goto (pc' := 244) X_325.here hx (hb hby at_240) (by decide) (by decide) ?_
          obtain ⟨_, _, ⟨T_326, L_326, k_326, n_326⟩, -, X_326, ⟨Lc_326, hQ_326, l_326, y_326, z_326⟩, st_326⟩ := Jvm.LawKit.callS X_325 hx (y := (⟨"com/example/faithful_deputy/faithfuldeputy/BitsKeepOnlyPinLaw", "bitIn", "(IIZ)J"⟩ : MethodName)) hown (mvT hZ (hw _ (List.mem_of_getElem? (i := 6) rfl))) (mvT hZ (hw _ (List.mem_of_getElem? (i := 7) rfl))) (mvT hZ (hw _ (List.mem_of_getElem? (i := 3) rfl))) (mvT hZ (hw _ (List.mem_of_getElem? (i := 8) rfl))) (by decide) (backOf (W := 2) (rm2_1_1 l Z a0 hw [] nu2 h_319 n0 Zs ) hZ (hw _ (List.mem_of_getElem? (i := 8) rfl)) (hw _ (List.mem_of_getElem? (i := 3) rfl)) (by decide) (by decide)) (g := (mkF m 244 #[.val (.long q0), .second, .val (.long q1), .second, .val (.int p4), .val (.int p5), .val (.int nu0), .val (.int nu1), .val (.int nu2), .val (.int nu3), .val (.int (4 : Int32)), .val (.ref bl), .val (.long m0), .second, .unset, .unset, .unset, .unset, .unset] [(.int (1 : Int32)), (.int (1 : Int32)), (.int nu2), (.long (z10 ||| z11))])) rfl (by rw [hml]; rfl) (argsL := [(.int nu2), (.int (1 : Int32)), (.int (1 : Int32))]) (rest := [(.long (z10 ||| z11))]) (lenOf pd_1 rfl) rfl (by show 2 * 0 + _ ≤ _; exact Nat.le_of_eq rfl) (hb hby at_244) (fun _ _ => ⟨rfl, e_325, (by decide : 1 + 0 ≤ _), (by decide : 4 + 0 ≤ _)⟩)
          dsimp only [Pt.U, Pt.locs, Pt.cells, Pt.slots] at X_326 l_326 y_326 z_326 st_326 hQ_326
          subst l_326 y_326 z_326
          obtain ⟨Nq_326, e_326, z12, rfl, hz12⟩ := hQ_326
          replace Nf := Fr.app Nf Nq_326
          refine Win.go st_326 ?_
          clear st_326 Nq_326 X_325 e_325
          show Win p.tables e below _ (T_326.setTop (mkF m 247 #[.val (.long q0), .second, .val (.long q1), .second, .val (.int p4), .val (.int p5), .val (.int nu0), .val (.int nu1), .val (.int nu2), .val (.int nu3), .val (.int (4 : Int32)), .val (.ref bl), .val (.long m0), .second, .unset, .unset, .unset, .unset, .unset] [(.long z12), (.long (z10 ||| z11))]))
          refine s_lor (pc' := 248) X_326.here hx (hb hby at_247) rfl ?_
          refine s_iload (pc' := 250) X_326.here hx (hb hby at_248) rfl rfl ?_
          refine s_iconst (pc' := 251) (z := (1 : Int32)) X_326.here hx (hb hby at_250) rfl rfl ?_
          refine s_iload (pc' := 253) X_326.here hx (hb hby at_251) rfl rfl ?_
          refine s_iconst (pc' := 254) (z := (3 : Int32)) X_326.here hx (hb hby at_253) rfl rfl ?_
          refine s_icmpNo (pc' := 257) X_326.here hx (hb hby at_254) rfl (tltI (x := (3 : Int32)) (y := (4 : Int32)) (by decide)).2.2.2 ?_
          refine s_iconst (pc' := 258) (z := (1 : Int32)) X_326.here hx (hb hby at_257) rfl rfl ?_
          refine s_goto (pc' := 262) X_326.here hx (hb hby at_258) (by decide) (by decide) ?_
          obtain ⟨_, _, ⟨T_327, L_327, k_327, n_327⟩, -, X_327, ⟨Lc_327, hQ_327, l_327, y_327, z_327⟩, st_327⟩ := Jvm.LawKit.callS X_326 hx (y := (⟨"com/example/faithful_deputy/faithfuldeputy/BitsKeepOnlyPinLaw", "bitIn", "(IIZ)J"⟩ : MethodName)) hown (mvT hZ (hw _ (List.mem_of_getElem? (i := 6) rfl))) (mvT hZ (hw _ (List.mem_of_getElem? (i := 7) rfl))) (mvT hZ (hw _ (List.mem_of_getElem? (i := 3) rfl))) (mvT hZ (hw _ (List.mem_of_getElem? (i := 8) rfl))) (by decide) (backOf (W := 2) (rm2_1_1 l Z a0 hw [] nu3 h_319 n0 Zs ) hZ (hw _ (List.mem_of_getElem? (i := 8) rfl)) (hw _ (List.mem_of_getElem? (i := 3) rfl)) (by decide) (by decide)) (g := (mkF m 262 #[.val (.long q0), .second, .val (.long q1), .second, .val (.int p4), .val (.int p5), .val (.int nu0), .val (.int nu1), .val (.int nu2), .val (.int nu3), .val (.int (4 : Int32)), .val (.ref bl), .val (.long m0), .second, .unset, .unset, .unset, .unset, .unset] [(.int (1 : Int32)), (.int (1 : Int32)), (.int nu3), (.long ((z10 ||| z11) ||| z12))])) rfl (by rw [hml]; rfl) (argsL := [(.int nu3), (.int (1 : Int32)), (.int (1 : Int32))]) (rest := [(.long ((z10 ||| z11) ||| z12))]) (lenOf pd_1 rfl) rfl (by show 2 * 0 + _ ≤ _; exact Nat.le_of_eq rfl) (hb hby at_262) (fun _ _ => ⟨rfl, e_326, (by decide : 1 + 0 ≤ _), (by decide : 4 + 0 ≤ _)⟩)
          dsimp only [Pt.U, Pt.locs, Pt.cells, Pt.slots] at X_327 l_327 y_327 z_327 st_327 hQ_327
          subst l_327 y_327 z_327
          obtain ⟨Nq_327, e_327, z13, rfl, hz13⟩ := hQ_327
          replace Nf := Fr.app Nf Nq_327
          refine Win.go st_327 ?_
          clear st_327 Nq_327 X_326 e_326
          show Win p.tables e below _ (T_327.setTop (mkF m 265 #[.val (.long q0), .second, .val (.long q1), .second, .val (.int p4), .val (.int p5), .val (.int nu0), .val (.int nu1), .val (.int nu2), .val (.int nu3), .val (.int (4 : Int32)), .val (.ref bl), .val (.long m0), .second, .unset, .unset, .unset, .unset, .unset] [(.long z13), (.long ((z10 ||| z11) ||| z12))]))
          refine s_lor (pc' := 266) X_327.here hx (hb hby at_265) rfl ?_
          refine s_lstore (pc' := 268) (l' := #[.val (.long q0), .second, .val (.long q1), .second, .val (.int p4), .val (.int p5), .val (.int nu0), .val (.int nu1), .val (.int nu2), .val (.int nu3), .val (.int (4 : Int32)), .val (.ref bl), .val (.long m0), .second, .val (.long (((z10 ||| z11) ||| z12) ||| z13)), .second, .unset, .unset, .unset]) X_327.here hx (hb hby at_266) rfl rfl ?_
          generalize hm1 : (((z10 ||| z11) ||| z12) ||| z13) = m1
          show Win p.tables e below _ (T_327.setTop (mkF m 268 #[.val (.long q0), .second, .val (.long q1), .second, .val (.int p4), .val (.int p5), .val (.int nu0), .val (.int nu1), .val (.int nu2), .val (.int nu3), .val (.int (4 : Int32)), .val (.ref bl), .val (.long m0), .second, .val (.long m1), .second, .unset, .unset, .unset] []))
          refine s_iconst (pc' := 269) (z := (2 : Int32)) X_327.here hx (hb hby at_268) rfl rfl ?_
          obtain ⟨T_328, h_328, k_328, X_328, e_328, Ex_328, A_328, EA_328, st_328⟩ := newPE X_327 hx hZ (hw _ (List.mem_of_getElem? (i := 9) rfl)) e_327 (g := (mkF m 269 #[.val (.long q0), .second, .val (.long q1), .second, .val (.int p4), .val (.int p5), .val (.int nu0), .val (.int nu1), .val (.int nu2), .val (.int nu3), .val (.int (4 : Int32)), .val (.ref bl), .val (.long m0), .second, .val (.long m1), .second, .unset, .unset, .unset] [(.int (2 : Int32))])) rfl (hb hby at_269) rfl (by decide) (cap := 2) (by decide) (by decide) (by decide) (by decide) (ad := "[J") (by decide)
          obtain ⟨b_328, g_328⟩ : ∃ z, z = h_319.size := ⟨_, rfl⟩
          have ne_bl_b_328 : bl ≠ b_328 := Nat.ne_of_lt (Nat.lt_of_lt_of_le lt_bl (Nat.le_of_eq g_328.symm))
          have g_b_328 : n0 ≤ b_328 := Nat.le_trans Zs (Nat.le_of_eq g_328.symm)
          rw [← g_328] at A_328 EA_328 st_328
          replace V_bl := V_bl.ext Ex_328
          replace lt_bl := Nat.lt_of_lt_of_le lt_bl Ex_328.1
          replace Zs := Nat.le_trans Zs Ex_328.1
          have V_b_328 : Arv Z h_328 b_328 k_328 .long (2 : Int32) [(.long (0 : Int64)), (.long (0 : Int64))] (.long (0 : Int64)) := (Arv.new A_328 (by decide)).pad (pad_rep [] (.long (0 : Int64)) 2)
          have lt_b_328 := V_b_328.lt
          have E_b_328 := EA_328
          refine Win.go st_328 ?_
          clear st_328 Ex_328 A_328 EA_328 g_328 X_327 e_327
          show Win p.tables e below _ (T_328.setTop (mkF m 271 #[.val (.long q0), .second, .val (.long q1), .second, .val (.int p4), .val (.int p5), .val (.int nu0), .val (.int nu1), .val (.int nu2), .val (.int nu3), .val (.int (4 : Int32)), .val (.ref bl), .val (.long m0), .second, .val (.long m1), .second, .unset, .unset, .unset] [(.ref b_328)]))
          refine s_dup (pc' := 272) X_328.here hx (hb hby at_271) rfl rfl ?_
          refine s_iconst (pc' := 273) (z := (0 : Int32)) X_328.here hx (hb hby at_272) rfl rfl ?_
          refine s_lloadN (pc' := 274) X_328.here hx (hb hby at_273) rfl rfl ?_
          obtain ⟨cl_329, Ar_329, q_329, S_329, N_329, H_329, G_329⟩ := V_b_328
          obtain ⟨T_329, h_329, X_329, e_329, W_329, st_329⟩ := stJ X_328 hx hZ e_328 Ar_329 (j := (0 : Int32)) (inb_of S_329 ⟨by decide, by decide⟩) (g := (mkF m 274 #[.val (.long q0), .second, .val (.long q1), .second, .val (.int p4), .val (.int p5), .val (.int nu0), .val (.int nu1), .val (.int nu2), .val (.int nu3), .val (.int (4 : Int32)), .val (.ref bl), .val (.long m0), .second, .val (.long m1), .second, .unset, .unset, .unset] [(.long q0), (.int (0 : Int32)), (.ref b_328), (.ref b_328)])) rfl rfl (hb hby at_274)
          have V_329 := Arv.set Ar_329 q_329 S_329 N_329 H_329 G_329 rfl W_329 0 rfl (Nat.le_of_ble_eq_true rfl)
          replace V_bl := V_bl.other W_329 ne_bl_b_328
          replace E_b_328 := E_b_328.wr W_329
          replace lt_bl := Nat.lt_of_lt_of_le lt_bl (Keep.of_wr W_329).1
          replace lt_b_328 := Nat.lt_of_lt_of_le lt_b_328 (Keep.of_wr W_329).1
          replace Zs := Nat.le_trans Zs (Keep.of_wr W_329).1
          replace V_b_328 : Arv Z h_329 b_328 k_328 .long (2 : Int32) [(.long q0), (.long (0 : Int64))] (.long (0 : Int64)) := V_329
          replace Nf := Fr.snoc X_329 Nf g_b_328
          refine Win.go st_329 ?_
          clear st_329 W_329 V_329 Ar_329 q_329 S_329 N_329 H_329 G_329 X_328 e_328
          show Win p.tables e below _ (T_329.setTop (mkF m 275 #[.val (.long q0), .second, .val (.long q1), .second, .val (.int p4), .val (.int p5), .val (.int nu0), .val (.int nu1), .val (.int nu2), .val (.int nu3), .val (.int (4 : Int32)), .val (.ref bl), .val (.long m0), .second, .val (.long m1), .second, .unset, .unset, .unset] [(.ref b_328)]))
          refine s_dup (pc' := 276) X_329.here hx (hb hby at_275) rfl rfl ?_
          refine s_iconst (pc' := 277) (z := (1 : Int32)) X_329.here hx (hb hby at_276) rfl rfl ?_
          refine s_lloadN (pc' := 278) X_329.here hx (hb hby at_277) rfl rfl ?_
          obtain ⟨cl_330, Ar_330, q_330, S_330, N_330, H_330, G_330⟩ := V_b_328
          obtain ⟨T_330, h_330, X_330, e_330, W_330, st_330⟩ := stJ X_329 hx hZ e_329 Ar_330 (j := (1 : Int32)) (inb_of S_330 ⟨by decide, by decide⟩) (g := (mkF m 278 #[.val (.long q0), .second, .val (.long q1), .second, .val (.int p4), .val (.int p5), .val (.int nu0), .val (.int nu1), .val (.int nu2), .val (.int nu3), .val (.int (4 : Int32)), .val (.ref bl), .val (.long m0), .second, .val (.long m1), .second, .unset, .unset, .unset] [(.long q1), (.int (1 : Int32)), (.ref b_328), (.ref b_328)])) rfl rfl (hb hby at_278)
          have V_330 := Arv.set Ar_330 q_330 S_330 N_330 H_330 G_330 rfl W_330 1 rfl (Nat.le_of_ble_eq_true rfl)
          replace V_bl := V_bl.other W_330 ne_bl_b_328
          replace E_b_328 := E_b_328.wr W_330
          replace lt_bl := Nat.lt_of_lt_of_le lt_bl (Keep.of_wr W_330).1
          replace lt_b_328 := Nat.lt_of_lt_of_le lt_b_328 (Keep.of_wr W_330).1
          replace Zs := Nat.le_trans Zs (Keep.of_wr W_330).1
          replace V_b_328 : Arv Z h_330 b_328 k_328 .long (2 : Int32) [(.long q0), (.long q1)] (.long (0 : Int64)) := V_330
          replace Nf := Fr.snoc X_330 Nf g_b_328
          refine Win.go st_330 ?_
          clear st_330 W_330 V_330 Ar_330 q_330 S_330 N_330 H_330 G_330 X_329 e_329
          show Win p.tables e below _ (T_330.setTop (mkF m 279 #[.val (.long q0), .second, .val (.long q1), .second, .val (.int p4), .val (.int p5), .val (.int nu0), .val (.int nu1), .val (.int nu2), .val (.int nu3), .val (.int (4 : Int32)), .val (.ref bl), .val (.long m0), .second, .val (.long m1), .second, .unset, .unset, .unset] [(.ref b_328)]))
          refine s_astore (pc' := 281) (l' := #[.val (.long q0), .second, .val (.long q1), .second, .val (.int p4), .val (.int p5), .val (.int nu0), .val (.int nu1), .val (.int nu2), .val (.int nu3), .val (.int (4 : Int32)), .val (.ref bl), .val (.long m0), .second, .val (.long m1), .second, .val (.ref b_328), .unset, .unset]) X_330.here hx (hb hby at_279) rfl rfl rfl ?_
          refine s_aload (pc' := 283) X_330.here hx (hb hby at_281) rfl rfl rfl ?_
          refine s_aload (pc' := 285) X_330.here hx (hb hby at_283) rfl rfl rfl ?_
          obtain ⟨_, _, ⟨T_331, L_331, k_331, n_331⟩, -, X_331, ⟨Lc_331, hQ_331, l_331, y_331, z_331⟩, st_331⟩ := Jvm.LawKit.callS X_330 hx (y := (⟨"com/example/faithful_deputy/faithfuldeputy/Bits", "keepOnly", "([J[I)Z"⟩ : MethodName)) hown (mvT hZ (hw _ (List.mem_of_getElem? (i := 10) rfl))) (mvT hZ (hw _ (List.mem_of_getElem? (i := 11) rfl))) (mvT hZ (hw _ (List.mem_of_getElem? (i := 12) rfl))) (mvT hZ (hw _ (List.mem_of_getElem? (i := 13) rfl))) (by decide) (backOf (W := 0) (rm3_4 l Z a0 hw [] b_328 bl k_328 q0 q1 kk_319 nu0 nu1 nu2 nu3 h_330 n0 Zs V_b_328 V_bl g_b_328 ne_bl_b_328 (by omega)) hZ (hw _ (List.mem_of_getElem? (i := 13) rfl)) (hw _ (List.mem_of_getElem? (i := 12) rfl)) (by decide) (by decide)) (g := (mkF m 285 #[.val (.long q0), .second, .val (.long q1), .second, .val (.int p4), .val (.int p5), .val (.int nu0), .val (.int nu1), .val (.int nu2), .val (.int nu3), .val (.int (4 : Int32)), .val (.ref bl), .val (.long m0), .second, .val (.long m1), .second, .val (.ref b_328), .unset, .unset] [(.ref bl), (.ref b_328)])) rfl (by rw [hml]; rfl) (argsL := [(.ref b_328), (.ref bl)]) (rest := []) (lenOf pd_2 rfl) rfl (by show 2 * 0 + _ ≤ _; exact Nat.le_of_eq rfl) (hb hby at_285) (fun _ _ => ⟨rfl, e_330, (by decide : 2 + 0 ≤ _), (by decide : 6 + 0 ≤ _)⟩)
          dsimp only [Pt.U, Pt.locs, Pt.cells, Pt.slots] at X_331 l_331 y_331 z_331 st_331 hQ_331
          subst l_331 y_331 z_331
          obtain ⟨h_331, e_331⟩ : ∃ z, T_331.heap = z := ⟨_, rfl⟩
          rw [e_331] at hQ_331
          obtain ⟨Nq_331, K_331, n_331_V_b_328, r, rfl, hr⟩ := hQ_331
          replace Nf := Fr.app Nf Nq_331
          replace V_bl := V_bl.keep K_331 (ninS ne_bl_b_328 nin0)
          clear V_b_328
          replace E_b_328 := E_b_328.keep K_331
          replace lt_bl := Nat.lt_of_lt_of_le lt_bl K_331.1
          replace lt_b_328 := Nat.lt_of_lt_of_le lt_b_328 K_331.1
          replace Zs := Nat.le_trans Zs K_331.1
          have V_b_328 := n_331_V_b_328
          refine Win.go st_331 ?_
          clear st_331 Nq_331 X_330 e_330 K_331
          show Win p.tables e below _ (T_331.setTop (mkF m 288 #[.val (.long q0), .second, .val (.long q1), .second, .val (.int p4), .val (.int p5), .val (.int nu0), .val (.int nu1), .val (.int nu2), .val (.int nu3), .val (.int (4 : Int32)), .val (.ref bl), .val (.long m0), .second, .val (.long m1), .second, .val (.ref b_328), .unset, .unset] [(.int r)]))
          refine s_istore (pc' := 290) (l' := #[.val (.long q0), .second, .val (.long q1), .second, .val (.int p4), .val (.int p5), .val (.int nu0), .val (.int nu1), .val (.int nu2), .val (.int nu3), .val (.int (4 : Int32)), .val (.ref bl), .val (.long m0), .second, .val (.long m1), .second, .val (.ref b_328), .val (.int r), .unset]) X_331.here hx (hb hby at_288) rfl rfl ?_
          have em0 : ((((bit0 nu0) ||| (bit0 nu1)) ||| (bit0 nu2)) ||| (bit0 nu3)) = m0 := by rw [← hm0, hz00, hz01, hz02, hz03]
          have em1 : ((((bit1 nu0) ||| (bit1 nu1)) ||| (bit1 nu2)) ||| (bit1 nu3)) = m1 := by rw [← hm1, hz10, hz11, hz12, hz13]
          rw [em0, em1] at V_b_328 hr
          rw [Int64.zero_or] at hr
          refine s_lloadN (pc' := 291) X_331.here hx (hb hby at_290) rfl rfl ?_
          refine s_lload (pc' := 293) X_331.here hx (hb hby at_291) rfl rfl ?_
          refine Win.go (fun _ k => X_331.ldc2Long hx hown (mvT hZ (hw _ (List.mem_of_getElem? (i := 15) rfl))) (g := (mkF m 293 #[.val (.long q0), .second, .val (.long q1), .second, .val (.int p4), .val (.int p5), .val (.int nu0), .val (.int nu1), .val (.int nu2), .val (.int nu3), .val (.int (4 : Int32)), .val (.ref bl), .val (.long m0), .second, .val (.long m1), .second, .val (.ref b_328), .val (.int r), .unset] [(.long m0), (.long q0)])) rfl (hb hby at_293) _ k) ?_
          show Win p.tables e below _ (T_331.setTop (mkF m 296 #[.val (.long q0), .second, .val (.long q1), .second, .val (.int p4), .val (.int p5), .val (.int nu0), .val (.int nu1), .val (.int nu2), .val (.int nu3), .val (.int (4 : Int32)), .val (.ref bl), .val (.long m0), .second, .val (.long m1), .second, .val (.ref b_328), .val (.int r), .unset] [(.long (-1 : Int64)), (.long m0), (.long q0)]))
          refine s_lxor (pc' := 297) X_331.here hx (hb hby at_296) rfl ?_
          refine s_land (pc' := 298) X_331.here hx (hb hby at_297) rfl ?_
          refine s_lloadN (pc' := 299) X_331.here hx (hb hby at_298) rfl rfl ?_
          refine s_lload (pc' := 301) X_331.here hx (hb hby at_299) rfl rfl ?_
          refine Win.go (fun _ k => X_331.ldc2Long hx hown (mvT hZ (hw _ (List.mem_of_getElem? (i := 15) rfl))) (g := (mkF m 301 #[.val (.long q0), .second, .val (.long q1), .second, .val (.int p4), .val (.int p5), .val (.int nu0), .val (.int nu1), .val (.int nu2), .val (.int nu3), .val (.int (4 : Int32)), .val (.ref bl), .val (.long m0), .second, .val (.long m1), .second, .val (.ref b_328), .val (.int r), .unset] [(.long m1), (.long q1), (.long (q0 &&& (m0 ^^^ (-1 : Int64))))])) rfl (hb hby at_301) _ k) ?_
          show Win p.tables e below _ (T_331.setTop (mkF m 304 #[.val (.long q0), .second, .val (.long q1), .second, .val (.int p4), .val (.int p5), .val (.int nu0), .val (.int nu1), .val (.int nu2), .val (.int nu3), .val (.int (4 : Int32)), .val (.ref bl), .val (.long m0), .second, .val (.long m1), .second, .val (.ref b_328), .val (.int r), .unset] [(.long (-1 : Int64)), (.long m1), (.long q1), (.long (q0 &&& (m0 ^^^ (-1 : Int64))))]))
          refine s_lxor (pc' := 305) X_331.here hx (hb hby at_304) rfl ?_
          refine s_land (pc' := 306) X_331.here hx (hb hby at_305) rfl ?_
          refine s_lor (pc' := 307) X_331.here hx (hb hby at_306) rfl ?_
          refine s_lconst (pc' := 308) (z := (0 : Int64)) X_331.here hx (hb hby at_307) rfl rfl ?_
          refine s_lcmp (pc' := 309) X_331.here hx (hb hby at_308) rfl ?_
          by_cases hc309 : (((q0 &&& (m0 ^^^ (-1 : Int64))) ||| (q1 &&& (m1 ^^^ (-1 : Int64))))).toInt = (0 : Int)
          · skip
            refine s_ifYes (pc' := 316) X_331.here hx (hb hby at_309) (teqL (x := ((q0 &&& (m0 ^^^ (-1 : Int64))) ||| (q1 &&& (m1 ^^^ (-1 : Int64))))) (y := (0 : Int64)) hc309).1 (by decide) (by decide) ?_
            refine s_iconst (pc' := 317) (z := (0 : Int32)) X_331.here hx (hb hby at_316) rfl rfl ?_
            refine s_istore (pc' := 319) (l' := #[.val (.long q0), .second, .val (.long q1), .second, .val (.int p4), .val (.int p5), .val (.int nu0), .val (.int nu1), .val (.int nu2), .val (.int nu3), .val (.int (4 : Int32)), .val (.ref bl), .val (.long m0), .second, .val (.long m1), .second, .val (.ref b_328), .val (.int r), .val (.int (0 : Int32))]) X_331.here hx (hb hby at_317) rfl rfl ?_
            refine s_iload (pc' := 321) X_331.here hx (hb hby at_319) rfl rfl ?_
            refine s_iload (pc' := 323) X_331.here hx (hb hby at_321) rfl rfl ?_
            by_cases hc323 : (r).toInt = (0 : Int)
            · skip
              refine s_icmpNo (pc' := 326) X_331.here hx (hb hby at_323) rfl (teqI (x := r) (y := (0 : Int32)) hc323).2 ?_
              refine s_aload (pc' := 328) X_331.here hx (hb hby at_326) rfl rfl rfl ?_
              refine s_iconst (pc' := 329) (z := (0 : Int32)) X_331.here hx (hb hby at_328) rfl rfl ?_
              obtain ⟨cl_332, Ar_332, q_332, S_332, N_332, H_332, G_332⟩ := id V_b_328
              have hi_332 : ¬ ((0 : Int32) < 0 ∨ cl_332.slots.size ≤ ((0 : Int32)).toNatClampNeg) := inb_of S_332 ⟨by decide, by decide⟩
              refine Win.go (fun _ k => X_331.laload hx (j := (0 : Int32)) (v := (.long (q0 &&& m0))) (by rw [e_331]; exact Ar_332.1) (State.isArrayOf_alike hZ.alike Ar_332.2.1) Ar_332.2.2 hi_332 (H_332.at hi_332 rfl) (g := (mkF m 329 #[.val (.long q0), .second, .val (.long q1), .second, .val (.int p4), .val (.int p5), .val (.int nu0), .val (.int nu1), .val (.int nu2), .val (.int nu3), .val (.int (4 : Int32)), .val (.ref bl), .val (.long m0), .second, .val (.long m1), .second, .val (.ref b_328), .val (.int r), .val (.int (0 : Int32))] [(.int (0 : Int32)), (.ref b_328)])) rfl rfl (hb hby at_329) _ k) ?_
              show Win p.tables e below _ (T_331.setTop (mkF m 330 #[.val (.long q0), .second, .val (.long q1), .second, .val (.int p4), .val (.int p5), .val (.int nu0), .val (.int nu1), .val (.int nu2), .val (.int nu3), .val (.int (4 : Int32)), .val (.ref bl), .val (.long m0), .second, .val (.long m1), .second, .val (.ref b_328), .val (.int r), .val (.int (0 : Int32))] [(.long (q0 &&& m0))]))
              clear Ar_332 q_332 S_332 N_332 H_332 G_332 hi_332
              refine s_lloadN (pc' := 331) X_331.here hx (hb hby at_330) rfl rfl ?_
              refine s_lload (pc' := 333) X_331.here hx (hb hby at_331) rfl rfl ?_
              refine s_land (pc' := 334) X_331.here hx (hb hby at_333) rfl ?_
              refine s_lcmp (pc' := 335) X_331.here hx (hb hby at_334) rfl ?_
              refine s_ifNo (pc' := 338) X_331.here hx (hb hby at_335) rfl (teqL (x := (q0 &&& m0)) (y := (q0 &&& m0)) (rfl)).2 ?_
              refine s_aload (pc' := 340) X_331.here hx (hb hby at_338) rfl rfl rfl ?_
              refine s_iconst (pc' := 341) (z := (1 : Int32)) X_331.here hx (hb hby at_340) rfl rfl ?_
              obtain ⟨cl_333, Ar_333, q_333, S_333, N_333, H_333, G_333⟩ := id V_b_328
              have hi_333 : ¬ ((1 : Int32) < 0 ∨ cl_333.slots.size ≤ ((1 : Int32)).toNatClampNeg) := inb_of S_333 ⟨by decide, by decide⟩
              refine Win.go (fun _ k => X_331.laload hx (j := (1 : Int32)) (v := (.long (q1 &&& m1))) (by rw [e_331]; exact Ar_333.1) (State.isArrayOf_alike hZ.alike Ar_333.2.1) Ar_333.2.2 hi_333 (H_333.at hi_333 rfl) (g := (mkF m 341 #[.val (.long q0), .second, .val (.long q1), .second, .val (.int p4), .val (.int p5), .val (.int nu0), .val (.int nu1), .val (.int nu2), .val (.int nu3), .val (.int (4 : Int32)), .val (.ref bl), .val (.long m0), .second, .val (.long m1), .second, .val (.ref b_328), .val (.int r), .val (.int (0 : Int32))] [(.int (1 : Int32)), (.ref b_328)])) rfl rfl (hb hby at_341) _ k) ?_
              show Win p.tables e below _ (T_331.setTop (mkF m 342 #[.val (.long q0), .second, .val (.long q1), .second, .val (.int p4), .val (.int p5), .val (.int nu0), .val (.int nu1), .val (.int nu2), .val (.int nu3), .val (.int (4 : Int32)), .val (.ref bl), .val (.long m0), .second, .val (.long m1), .second, .val (.ref b_328), .val (.int r), .val (.int (0 : Int32))] [(.long (q1 &&& m1))]))
              clear Ar_333 q_333 S_333 N_333 H_333 G_333 hi_333
              refine s_lloadN (pc' := 343) X_331.here hx (hb hby at_342) rfl rfl ?_
              refine s_lload (pc' := 345) X_331.here hx (hb hby at_343) rfl rfl ?_
              refine s_land (pc' := 346) X_331.here hx (hb hby at_345) rfl ?_
              refine s_lcmp (pc' := 347) X_331.here hx (hb hby at_346) rfl ?_
              refine s_ifNo (pc' := 350) X_331.here hx (hb hby at_347) rfl (teqL (x := (q1 &&& m1)) (y := (q1 &&& m1)) (rfl)).2 ?_
              refine s_iconst (pc' := 351) (z := (1 : Int32)) X_331.here hx (hb hby at_350) rfl rfl ?_
              refine s_goto (pc' := 355) X_331.here hx (hb hby at_351) (by decide) (by decide) ?_
              refine winN X_331 hx hlk e_331 (t := .boolean) Bd.returns (by simp) (hb hby at_355) (by decide) (by decide) (z' := 1) rfl ⟨Nf, rfl⟩
            · skip
              refine s_icmpYes (pc' := 354) X_331.here hx (hb hby at_323) (feqI (x := r) (y := (0 : Int32)) hc323).2 (by decide) (by decide) ?_
              refine s_iconst (pc' := 355) (z := (0 : Int32)) X_331.here hx (hb hby at_354) rfl rfl ?_
              exfalso
              omega
          · skip
            refine s_ifNo (pc' := 312) X_331.here hx (hb hby at_309) rfl (feqL (x := ((q0 &&& (m0 ^^^ (-1 : Int64))) ||| (q1 &&& (m1 ^^^ (-1 : Int64))))) (y := (0 : Int64)) hc309).1 ?_
            refine s_iconst (pc' := 313) (z := (1 : Int32)) X_331.here hx (hb hby at_312) rfl rfl ?_
            refine s_goto (pc' := 317) X_331.here hx (hb hby at_313) (by decide) (by decide) ?_
            refine s_istore (pc' := 319) (l' := #[.val (.long q0), .second, .val (.long q1), .second, .val (.int p4), .val (.int p5), .val (.int nu0), .val (.int nu1), .val (.int nu2), .val (.int nu3), .val (.int (4 : Int32)), .val (.ref bl), .val (.long m0), .second, .val (.long m1), .second, .val (.ref b_328), .val (.int r), .val (.int (1 : Int32))]) X_331.here hx (hb hby at_317) rfl rfl ?_
            refine s_iload (pc' := 321) X_331.here hx (hb hby at_319) rfl rfl ?_
            refine s_iload (pc' := 323) X_331.here hx (hb hby at_321) rfl rfl ?_
            by_cases hc323 : (r).toInt = (1 : Int)
            · skip
              refine s_icmpNo (pc' := 326) X_331.here hx (hb hby at_323) rfl (teqI (x := r) (y := (1 : Int32)) hc323).2 ?_
              refine s_aload (pc' := 328) X_331.here hx (hb hby at_326) rfl rfl rfl ?_
              refine s_iconst (pc' := 329) (z := (0 : Int32)) X_331.here hx (hb hby at_328) rfl rfl ?_
              obtain ⟨cl_334, Ar_334, q_334, S_334, N_334, H_334, G_334⟩ := id V_b_328
              have hi_334 : ¬ ((0 : Int32) < 0 ∨ cl_334.slots.size ≤ ((0 : Int32)).toNatClampNeg) := inb_of S_334 ⟨by decide, by decide⟩
              refine Win.go (fun _ k => X_331.laload hx (j := (0 : Int32)) (v := (.long (q0 &&& m0))) (by rw [e_331]; exact Ar_334.1) (State.isArrayOf_alike hZ.alike Ar_334.2.1) Ar_334.2.2 hi_334 (H_334.at hi_334 rfl) (g := (mkF m 329 #[.val (.long q0), .second, .val (.long q1), .second, .val (.int p4), .val (.int p5), .val (.int nu0), .val (.int nu1), .val (.int nu2), .val (.int nu3), .val (.int (4 : Int32)), .val (.ref bl), .val (.long m0), .second, .val (.long m1), .second, .val (.ref b_328), .val (.int r), .val (.int (1 : Int32))] [(.int (0 : Int32)), (.ref b_328)])) rfl rfl (hb hby at_329) _ k) ?_
              show Win p.tables e below _ (T_331.setTop (mkF m 330 #[.val (.long q0), .second, .val (.long q1), .second, .val (.int p4), .val (.int p5), .val (.int nu0), .val (.int nu1), .val (.int nu2), .val (.int nu3), .val (.int (4 : Int32)), .val (.ref bl), .val (.long m0), .second, .val (.long m1), .second, .val (.ref b_328), .val (.int r), .val (.int (1 : Int32))] [(.long (q0 &&& m0))]))
              clear Ar_334 q_334 S_334 N_334 H_334 G_334 hi_334
              refine s_lloadN (pc' := 331) X_331.here hx (hb hby at_330) rfl rfl ?_
              refine s_lload (pc' := 333) X_331.here hx (hb hby at_331) rfl rfl ?_
              refine s_land (pc' := 334) X_331.here hx (hb hby at_333) rfl ?_
              refine s_lcmp (pc' := 335) X_331.here hx (hb hby at_334) rfl ?_
              refine s_ifNo (pc' := 338) X_331.here hx (hb hby at_335) rfl (teqL (x := (q0 &&& m0)) (y := (q0 &&& m0)) (rfl)).2 ?_
              refine s_aload (pc' := 340) X_331.here hx (hb hby at_338) rfl rfl rfl ?_
              refine s_iconst (pc' := 341) (z := (1 : Int32)) X_331.here hx (hb hby at_340) rfl rfl ?_
              obtain ⟨cl_335, Ar_335, q_335, S_335, N_335, H_335, G_335⟩ := id V_b_328
              have hi_335 : ¬ ((1 : Int32) < 0 ∨ cl_335.slots.size ≤ ((1 : Int32)).toNatClampNeg) := inb_of S_335 ⟨by decide, by decide⟩
              refine Win.go (fun _ k => X_331.laload hx (j := (1 : Int32)) (v := (.long (q1 &&& m1))) (by rw [e_331]; exact Ar_335.1) (State.isArrayOf_alike hZ.alike Ar_335.2.1) Ar_335.2.2 hi_335 (H_335.at hi_335 rfl) (g := (mkF m 341 #[.val (.long q0), .second, .val (.long q1), .second, .val (.int p4), .val (.int p5), .val (.int nu0), .val (.int nu1), .val (.int nu2), .val (.int nu3), .val (.int (4 : Int32)), .val (.ref bl), .val (.long m0), .second, .val (.long m1), .second, .val (.ref b_328), .val (.int r), .val (.int (1 : Int32))] [(.int (1 : Int32)), (.ref b_328)])) rfl rfl (hb hby at_341) _ k) ?_
              show Win p.tables e below _ (T_331.setTop (mkF m 342 #[.val (.long q0), .second, .val (.long q1), .second, .val (.int p4), .val (.int p5), .val (.int nu0), .val (.int nu1), .val (.int nu2), .val (.int nu3), .val (.int (4 : Int32)), .val (.ref bl), .val (.long m0), .second, .val (.long m1), .second, .val (.ref b_328), .val (.int r), .val (.int (1 : Int32))] [(.long (q1 &&& m1))]))
              clear Ar_335 q_335 S_335 N_335 H_335 G_335 hi_335
              refine s_lloadN (pc' := 343) X_331.here hx (hb hby at_342) rfl rfl ?_
              refine s_lload (pc' := 345) X_331.here hx (hb hby at_343) rfl rfl ?_
              refine s_land (pc' := 346) X_331.here hx (hb hby at_345) rfl ?_
              refine s_lcmp (pc' := 347) X_331.here hx (hb hby at_346) rfl ?_
              refine s_ifNo (pc' := 350) X_331.here hx (hb hby at_347) rfl (teqL (x := (q1 &&& m1)) (y := (q1 &&& m1)) (rfl)).2 ?_
              refine s_iconst (pc' := 351) (z := (1 : Int32)) X_331.here hx (hb hby at_350) rfl rfl ?_
              refine s_goto (pc' := 355) X_331.here hx (hb hby at_351) (by decide) (by decide) ?_
              refine winN X_331 hx hlk e_331 (t := .boolean) Bd.returns (by simp) (hb hby at_355) (by decide) (by decide) (z' := 1) rfl ⟨Nf, rfl⟩
            · skip
              refine s_icmpYes (pc' := 354) X_331.here hx (hb hby at_323) (feqI (x := r) (y := (1 : Int32)) hc323).2 (by decide) (by decide) ?_
              refine s_iconst (pc' := 355) (z := (0 : Int32)) X_331.here hx (hb hby at_354) rfl rfl ?_
              exfalso
              omega
      refine s_iload (pc' := 95) XJ93.here hx (hb hby at_93) rfl rfl ?_
      refine s_sipush (pc' := 98) (z := (128 : Int32)) XJ93.here hx (hb hby at_95) rfl rfl ?_
      by_cases hc98 : (nu1).toInt < (128 : Int)
      · skip
        refine s_icmpYes (pc' := 109) XJ93.here hx (hb hby at_98) (tltI (x := nu1) (y := (128 : Int32)) hc98).1 (by decide) (by decide) ?_
        exact J109 _ _ XJ93 eJ93 Nf c2 (by omega)
      · skip
        refine s_icmpNo (pc' := 101) XJ93.here hx (hb hby at_98) rfl (fltI (x := nu1) (y := (128 : Int32)) hc98).1 ?_
        refine s_iload (pc' := 103) XJ93.here hx (hb hby at_101) rfl rfl ?_
        refine s_iconst (pc' := 104) (z := (1 : Int32)) XJ93.here hx (hb hby at_103) rfl rfl ?_
        obtain ⟨_, _, ⟨T_336, L_336, k_336, n_336⟩, -, X_336, ⟨Lc_336, hQ_336, l_336, y_336, z_336⟩, st_336⟩ := Jvm.LawKit.callS XJ93 hx (y := (⟨"java/lang/Math", "min", "(II)I"⟩ : MethodName)) hown (mvT hZ (hw _ (List.mem_of_getElem? (i := 16) rfl))) (mvT hZ (hw _ (List.mem_of_getElem? (i := 17) rfl))) (mvT hZ (hw _ (List.mem_of_getElem? (i := 18) rfl))) (mvT hZ (hw _ (List.mem_of_getElem? (i := 19) rfl))) (by decide) (backOf (W := 0) (rm4 l Z a0 hw [] c2 (1 : Int32) h0 n0 Zs ) hZ (hw _ (List.mem_of_getElem? (i := 19) rfl)) (hw _ (List.mem_of_getElem? (i := 18) rfl)) (by decide) (by decide)) (g := (mkF m 104 #[.val (.long q0), .second, .val (.long q1), .second, .val (.int p4), .val (.int p5), .val (.int nu0), .val (.int nu1), .val (.int nu2), .val (.int nu3), .val (.int c2), .unset, .unset, .unset, .unset, .unset, .unset, .unset, .unset] [(.int (1 : Int32)), (.int c2)])) rfl (by rw [hml]; rfl) (argsL := [(.int c2), (.int (1 : Int32))]) (rest := []) (lenOf pd_3 rfl) rfl (by show 2 * 0 + _ ≤ _; exact Nat.le_of_eq rfl) (hb hby at_104) (fun _ _ => ⟨rfl, eJ93, (by decide : 0 + 0 ≤ _), (by decide : 0 + 0 ≤ _)⟩)
        dsimp only [Pt.U, Pt.locs, Pt.cells, Pt.slots] at X_336 l_336 y_336 z_336 st_336 hQ_336
        subst l_336 y_336 z_336
        obtain ⟨Nq_336, e_336, t3, rfl, ht3⟩ := hQ_336
        replace Nf := Fr.app Nf Nq_336
        refine Win.go st_336 ?_
        clear st_336 Nq_336 XJ93 eJ93
        show Win p.tables e below _ (T_336.setTop (mkF m 107 #[.val (.long q0), .second, .val (.long q1), .second, .val (.int p4), .val (.int p5), .val (.int nu0), .val (.int nu1), .val (.int nu2), .val (.int nu3), .val (.int c2), .unset, .unset, .unset, .unset, .unset, .unset, .unset, .unset] [(.int t3)]))
        rw [show (1 : Int32).toInt = 1 from rfl] at ht3
        refine s_istore (pc' := 109) (l' := #[.val (.long q0), .second, .val (.long q1), .second, .val (.int p4), .val (.int p5), .val (.int nu0), .val (.int nu1), .val (.int nu2), .val (.int nu3), .val (.int t3), .unset, .unset, .unset, .unset, .unset, .unset, .unset, .unset]) X_336.here hx (hb hby at_107) rfl rfl ?_
        exact J109 _ _ X_336 e_336 Nf t3 (by omega)
    refine s_iload (pc' := 79) XJ77.here hx (hb hby at_77) rfl rfl ?_
    refine s_sipush (pc' := 82) (z := (128 : Int32)) XJ77.here hx (hb hby at_79) rfl rfl ?_
    by_cases hc82 : (nu2).toInt < (128 : Int)
    · skip
      refine s_icmpYes (pc' := 93) XJ77.here hx (hb hby at_82) (tltI (x := nu2) (y := (128 : Int32)) hc82).1 (by decide) (by decide) ?_
      exact J93 _ _ XJ77 eJ77 Nf c1 (by omega)
    · skip
      refine s_icmpNo (pc' := 85) XJ77.here hx (hb hby at_82) rfl (fltI (x := nu2) (y := (128 : Int32)) hc82).1 ?_
      refine s_iload (pc' := 87) XJ77.here hx (hb hby at_85) rfl rfl ?_
      refine s_iconst (pc' := 88) (z := (2 : Int32)) XJ77.here hx (hb hby at_87) rfl rfl ?_
      obtain ⟨_, _, ⟨T_337, L_337, k_337, n_337⟩, -, X_337, ⟨Lc_337, hQ_337, l_337, y_337, z_337⟩, st_337⟩ := Jvm.LawKit.callS XJ77 hx (y := (⟨"java/lang/Math", "min", "(II)I"⟩ : MethodName)) hown (mvT hZ (hw _ (List.mem_of_getElem? (i := 16) rfl))) (mvT hZ (hw _ (List.mem_of_getElem? (i := 17) rfl))) (mvT hZ (hw _ (List.mem_of_getElem? (i := 18) rfl))) (mvT hZ (hw _ (List.mem_of_getElem? (i := 19) rfl))) (by decide) (backOf (W := 0) (rm4 l Z a0 hw [] c1 (2 : Int32) h0 n0 Zs ) hZ (hw _ (List.mem_of_getElem? (i := 19) rfl)) (hw _ (List.mem_of_getElem? (i := 18) rfl)) (by decide) (by decide)) (g := (mkF m 88 #[.val (.long q0), .second, .val (.long q1), .second, .val (.int p4), .val (.int p5), .val (.int nu0), .val (.int nu1), .val (.int nu2), .val (.int nu3), .val (.int c1), .unset, .unset, .unset, .unset, .unset, .unset, .unset, .unset] [(.int (2 : Int32)), (.int c1)])) rfl (by rw [hml]; rfl) (argsL := [(.int c1), (.int (2 : Int32))]) (rest := []) (lenOf pd_3 rfl) rfl (by show 2 * 0 + _ ≤ _; exact Nat.le_of_eq rfl) (hb hby at_88) (fun _ _ => ⟨rfl, eJ77, (by decide : 0 + 0 ≤ _), (by decide : 0 + 0 ≤ _)⟩)
      dsimp only [Pt.U, Pt.locs, Pt.cells, Pt.slots] at X_337 l_337 y_337 z_337 st_337 hQ_337
      subst l_337 y_337 z_337
      obtain ⟨Nq_337, e_337, t2, rfl, ht2⟩ := hQ_337
      replace Nf := Fr.app Nf Nq_337
      refine Win.go st_337 ?_
      clear st_337 Nq_337 XJ77 eJ77
      show Win p.tables e below _ (T_337.setTop (mkF m 91 #[.val (.long q0), .second, .val (.long q1), .second, .val (.int p4), .val (.int p5), .val (.int nu0), .val (.int nu1), .val (.int nu2), .val (.int nu3), .val (.int c1), .unset, .unset, .unset, .unset, .unset, .unset, .unset, .unset] [(.int t2)]))
      rw [show (2 : Int32).toInt = 2 from rfl] at ht2
      refine s_istore (pc' := 93) (l' := #[.val (.long q0), .second, .val (.long q1), .second, .val (.int p4), .val (.int p5), .val (.int nu0), .val (.int nu1), .val (.int nu2), .val (.int nu3), .val (.int t2), .unset, .unset, .unset, .unset, .unset, .unset, .unset, .unset]) X_337.here hx (hb hby at_91) rfl rfl ?_
      exact J93 _ _ X_337 e_337 Nf t2 (by omega)
  refine s_iload (pc' := 63) X0.here hx (hb hby at_61) rfl rfl ?_
  refine s_sipush (pc' := 66) (z := (128 : Int32)) X0.here hx (hb hby at_63) rfl rfl ?_
  by_cases hc66 : (nu3).toInt < (128 : Int)
  · skip
    refine s_icmpYes (pc' := 77) X0.here hx (hb hby at_66) (tltI (x := nu3) (y := (128 : Int32)) hc66).1 (by decide) (by decide) ?_
    exact J77 _ _ X0 e0 Nf cc (by omega)
  · skip
    refine s_icmpNo (pc' := 69) X0.here hx (hb hby at_66) rfl (fltI (x := nu3) (y := (128 : Int32)) hc66).1 ?_
    refine s_iload (pc' := 71) X0.here hx (hb hby at_69) rfl rfl ?_
    refine s_iconst (pc' := 72) (z := (3 : Int32)) X0.here hx (hb hby at_71) rfl rfl ?_
    obtain ⟨_, _, ⟨T_338, L_338, k_338, n_338⟩, -, X_338, ⟨Lc_338, hQ_338, l_338, y_338, z_338⟩, st_338⟩ := Jvm.LawKit.callS X0 hx (y := (⟨"java/lang/Math", "min", "(II)I"⟩ : MethodName)) hown (mvT hZ (hw _ (List.mem_of_getElem? (i := 16) rfl))) (mvT hZ (hw _ (List.mem_of_getElem? (i := 17) rfl))) (mvT hZ (hw _ (List.mem_of_getElem? (i := 18) rfl))) (mvT hZ (hw _ (List.mem_of_getElem? (i := 19) rfl))) (by decide) (backOf (W := 0) (rm4 l Z a0 hw [] cc (3 : Int32) h0 n0 Zs ) hZ (hw _ (List.mem_of_getElem? (i := 19) rfl)) (hw _ (List.mem_of_getElem? (i := 18) rfl)) (by decide) (by decide)) (g := (mkF m 72 #[.val (.long q0), .second, .val (.long q1), .second, .val (.int p4), .val (.int p5), .val (.int nu0), .val (.int nu1), .val (.int nu2), .val (.int nu3), .val (.int cc), .unset, .unset, .unset, .unset, .unset, .unset, .unset, .unset] [(.int (3 : Int32)), (.int cc)])) rfl (by rw [hml]; rfl) (argsL := [(.int cc), (.int (3 : Int32))]) (rest := []) (lenOf pd_3 rfl) rfl (by show 2 * 0 + _ ≤ _; exact Nat.le_of_eq rfl) (hb hby at_72) (fun _ _ => ⟨rfl, e0, (by decide : 0 + 0 ≤ _), (by decide : 0 + 0 ≤ _)⟩)
    dsimp only [Pt.U, Pt.locs, Pt.cells, Pt.slots] at X_338 l_338 y_338 z_338 st_338 hQ_338
    subst l_338 y_338 z_338
    obtain ⟨Nq_338, e_338, t1, rfl, ht1⟩ := hQ_338
    replace Nf := Fr.app Nf Nq_338
    refine Win.go st_338 ?_
    clear st_338 Nq_338 X0 e0
    show Win p.tables e below _ (T_338.setTop (mkF m 75 #[.val (.long q0), .second, .val (.long q1), .second, .val (.int p4), .val (.int p5), .val (.int nu0), .val (.int nu1), .val (.int nu2), .val (.int nu3), .val (.int cc), .unset, .unset, .unset, .unset, .unset, .unset, .unset, .unset] [(.int t1)]))
    rw [show (3 : Int32).toInt = 3 from rfl] at ht1
    refine s_istore (pc' := 77) (l' := #[.val (.long q0), .second, .val (.long q1), .second, .val (.int p4), .val (.int p5), .val (.int nu0), .val (.int nu1), .val (.int nu2), .val (.int nu3), .val (.int t1), .unset, .unset, .unset, .unset, .unset, .unset, .unset, .unset]) X_338.here hx (hb hby at_75) rfl rfl ?_
    exact J77 _ _ X_338 e_338 Nf t1 (by omega)
set_option maxRecDepth 65536 in
set_option maxHeartbeats 40000000 in
theorem comes_1 {Post : Tables → Env → Array Value → State → Outcome → State → Prop} (hpost : ∀ tb e args s v u, (limb_1_1.after args s (.returned v) u = true ∧ limb_1_2.after args s (.returned v) u = true ∧ True) → FrameEnd s (.returned v) u (Jvm.fieldLocs frame_1_writes args s ++ Jvm.arrayLocs frame_1_arrays args s ++ Jvm.staticLocs frame_1_statics s) 16 128 → Post tb e args s (.returned v) u) :
    ArmFor flags0 classFile x code maxLocals ret World_1 tables_1 room_1 Calls_1 rest_1 Pre_1 Post := by
  intro l hfl _ _ p e ha hc hk s m args below hf hA hF happ hP
  obtain ⟨hcalls, hrest, hpre⟩ := hP
  obtain ⟨-, -, -, hnamed, -, -, -, hat⟩ := (Spec.applies_iff hf).mp happ
  obtain ⟨hg, hn⟩ := and_e (Cond.before_iff.mp (show (Jvm.Cond.and given_1 narrow_1).before args s = true from hpre))
  obtain ⟨g1, g2⟩ := and_e hg
  obtain ⟨g3, g4⟩ := and_e g2
  obtain ⟨g5, g6⟩ := and_e g4
  obtain ⟨g7, g8⟩ := and_e g6
  obtain ⟨w0, w1, w2, w3, rfl⟩ : ∃ w0 w1 w2 w3 : Value, args = #[w0, w1, w2, w3] := by
    have hs : args.size = 4 := by simpa [Cond.value, given_1] using g1
    obtain ⟨L⟩ := args
    match L, hs with
    | [w0, w1, w2, w3], _ => exact ⟨w0, w1, w2, w3, rfl⟩
  have hw := fun d (hd : d ∈ tables_1) => atoms_spec (ws := Jvm.Cond.code x code maxLocals ret :: tables_1) hat d (List.mem_cons_of_mem _ hd)
  have hfit : Fit s := fun {y c} hc i hi => by
    obtain ⟨ha, rfl⟩ := Array.getElem?_eq_some_iff.mp hc
    have q := List.all_eq_true.mp ((Array.all_eq_true_iff_forall_mem.mp hF) _ (Array.getElem_mem ha)) i (List.mem_range.mpr hi)
    simpa [Array.getElem?_eq_getElem hi] using q
  obtain ⟨i0, ei0⟩ := isL_v g3
  obtain rfl : w0 = (.long i0) := Option.some.inj ei0
  obtain ⟨i1, ei1⟩ := isL_v g5
  obtain rfl : w1 = (.long i1) := Option.some.inj ei1
  obtain ⟨i2, ei2⟩ := is_v g7
  obtain rfl : w2 = (.int i2) := Option.some.inj ei2
  obtain ⟨i3, ei3⟩ := is_v g8
  obtain rfl : w3 = (.int i3) := Option.some.inj ei3
  obtain ⟨n, o, h1, h2, h3, _, L, rfl, ⟨N, rfl⟩, hq⟩ := rm0 l s _ hw tables_1 i0 i1 i2 i3 s.heap s.heap.size (Nat.le_refl _) p e ha hc hk s m _ below hf ((Spec.applies_iff_loose hf).mp happ).1 ⟨rfl, State.Warmed39.refl s, rfl⟩ trivial
  refine ⟨n, _, h1, h2, h3, hpost _ _ _ _ _ _ ⟨Cond.after_iff.mpr rfl, Cond.after_iff.mpr (eq_i res_at (Term.int_eval (1)) rfl), trivial⟩ ⟨hq.1, hq.2.1, (hq.2.2.sift fun y hy => Or.inr (N y hy)).mono (by decide) (by decide)⟩⟩
theorem main_1_1 : Claimed_1_1 := comes_1 fun _ _ _ _ _ _ h hF => ⟨h.1, hF⟩
theorem main_1_2 : Claimed_1_2 := comes_1 fun _ _ _ _ _ _ h hF => ⟨h.2.1, hF⟩
end Jvm.Pilot.@@N@@
namespace Jvm.Pilot.@@N@@
open Jvm Jvm.ClassFile Sem Op Lib Jvm.Free Jvm.Stand Jvm.Pilot.@@N@@.Jvm.D
/-! MADE BY PROGRAM (witnessworld.py) out of the Statement's table words and the real class files: 12 classes; the members and pool entries that the words name. The judged class is class 1, her method 3. -/
namespace start1
open Jvm.ClassFile
def u (s : String) : CpInfo := .utf8 (stringToUtf16 s)
/-- a pool by its gaps: so many unusable entries, then the entry; so many at the end -/
def gap : Nat → List CpInfo → List CpInfo
  | 0, r => r
  | n + 1, r => .unusable :: gap n r
def poolList (es : List (Nat × CpInfo)) (last : Nat) : List CpInfo := es.foldr (fun e r => gap e.1 (e.2 :: r)) (gap last [])
def pool (es : List (Nat × CpInfo)) (last : Nat) : Array CpInfo := ⟨poolList es last⟩
def fileOf (pool : Array CpInfo) (this : Nat) (attrs : Array Attribute := #[]) (ms : Array MethodInfo := #[]) (fl : Nat := 33) (sup : Nat := 0) (ifs : Array Nat := #[]) (fds : Array FieldInfo := #[]) : ClassFile where
  minorVersion := 0
  majorVersion := 65
  constantPool := pool
  accessFlags := fl
  thisClass := this
  superClass := sup
  interfaces := ifs
  fields := fds
  methods := ms
  attributes := attrs
def plain (name : String) (sup : Option ClassId) : Class where
  name := name
  kind := .ordinary
  loader := none
  accessFlags := 33
  super := sup
  interfaces := #[]
  cf := none
  fields := #[]
  methods := #[]
  instanceTypes := #[]
  staticTypes := #[]
  resolved := #[]
  callSites := []
  init := .initialized
  statics := none
  mirror := none

def pool0 : Array CpInfo := pool [(5, u "<init>"), (0, u "()V"), (1, .class_ 10), (1, u "java/lang/Object")] 113

def k0m0 : Method := { name := "<init>", desc := "()V", sig := { parameters := [], returnType := none }, accessFlags := 1, code := none }
/-- java/lang/Object -/
def k0 : Class := { plain "java/lang/Object" none with
  accessFlags := 33
  interfaces := #[]
  cf := some (fileOf pool0 8 #[] #[{ accessFlags := 1, nameIndex := 5, descriptorIndex := 6, attributes := #[] }] 33 0 #[] #[])
  fields := #[]
  methods := #[k0m0]
  instanceTypes := #[]
  staticTypes := #[]
  resolved := Array.replicate 124 none
  statics := none }

def pool1 : Array CpInfo := pool [(2, .class_ 4), (1, u "java/lang/Object"), (0, u "<init>"), (0, u "()V"), (0, .integer 2147483647), (0, .methodref 9 10), (0, .class_ 11), (0, .nameAndType 12 13), (0, u "java/lang/Math"), (0, u "min"), (0, u "(II)I"), (0, .methodref 15 16), (0, .class_ 17), (0, .nameAndType 18 19), (0, u "com/example/faithful_deputy/faithfuldeputy/BitsKeepOnlyPinLaw"), (0, u "list"), (0, u "(IIIII)[I"), (0, .methodref 15 21), (0, .nameAndType 22 23), (0, u "bitIn"), (0, u "(IIZ)J"), (0, .methodref 25 26), (0, .class_ 27), (0, .nameAndType 28 29), (0, u "com/example/faithful_deputy/faithfuldeputy/Bits"), (0, u "keepOnly"), (0, u "([J[I)Z"), (0, .long 18446744073709551615), (4, u "law"), (0, u "(JJII)Z")] 6

def k1m0 : Method := { name := "<init>", desc := "()V", sig := { parameters := [], returnType := none }, accessFlags := 2, code := none }
def k1c1 : Code := { maxStack := 5, maxLocals := 3, code := method_2_code, exceptionTable := #[], attributes := #[] }
def k1m1 : Method := { name := "bitIn", desc := "(IIZ)J", sig := { parameters := [.int, .int, .boolean], returnType := some .long }, accessFlags := 10, code := some k1c1 }
def k1c2 : Code := { maxStack := 4, maxLocals := 5, code := method_3_code, exceptionTable := #[], attributes := #[] }
def k1m2 : Method := { name := "list", desc := "(IIIII)[I", sig := { parameters := [.int, .int, .int, .int, .int], returnType := some (.array .int) }, accessFlags := 10, code := some k1c2 }
def k1c3 : Code := { maxStack := 8, maxLocals := 19, code := code, exceptionTable := #[], attributes := #[] }
def k1m3 : Method := { name := "law", desc := "(JJII)Z", sig := { parameters := [.long, .long, .int, .int], returnType := some .boolean }, accessFlags := 9, code := some k1c3 }
/-- com/example/faithful_deputy/faithfuldeputy/BitsKeepOnlyPinLaw -/
def k1 : Class := { plain "com/example/faithful_deputy/faithfuldeputy/BitsKeepOnlyPinLaw" (some 0) with
  accessFlags := 49
  interfaces := #[]
  cf := some (fileOf pool1 15 #[] #[{ accessFlags := 2, nameIndex := 5, descriptorIndex := 6, attributes := #[] }, { accessFlags := 10, nameIndex := 22, descriptorIndex := 23, attributes := #[] }, { accessFlags := 10, nameIndex := 18, descriptorIndex := 19, attributes := #[] }, { accessFlags := 9, nameIndex := 35, descriptorIndex := 36, attributes := #[] }] 49 2 #[] #[])
  fields := #[]
  methods := #[k1m0, k1m1, k1m2, k1m3]
  instanceTypes := #[]
  staticTypes := #[]
  resolved := Array.replicate 43 none
  statics := none }

def pool2 : Array CpInfo := pool [(4, .class_ 6), (1, u "java/lang/Object"), (0, u "<init>"), (0, u "()V"), (0, .class_ 10), (0, u "com/example/faithful_deputy/faithfuldeputy/Bits"), (4, .long 18446744073709551615), (8, u "WORD"), (0, u "I"), (13, u "keepOnly"), (0, u "([J[I)Z")] 16

def k2m0 : Method := { name := "<init>", desc := "()V", sig := { parameters := [], returnType := none }, accessFlags := 2, code := none }
def k2c1 : Code := { maxStack := 8, maxLocals := 8, code := prog_2_method_8_code, exceptionTable := #[], attributes := #[] }
def k2m1 : Method := { name := "keepOnly", desc := "([J[I)Z", sig := { parameters := [(.array .long), (.array .int)], returnType := some .boolean }, accessFlags := 8, code := some k2c1 }
/-- com/example/faithful_deputy/faithfuldeputy/Bits -/
def k2 : Class := { plain "com/example/faithful_deputy/faithfuldeputy/Bits" (some 0) with
  accessFlags := 48
  interfaces := #[]
  cf := some (fileOf pool2 9 #[] #[{ accessFlags := 2, nameIndex := 7, descriptorIndex := 8, attributes := #[] }, { accessFlags := 8, nameIndex := 39, descriptorIndex := 40, attributes := #[] }] 48 4 #[] #[{ accessFlags := 24, nameIndex := 24, descriptorIndex := 25, attributes := #[] }])
  fields := #[{ name := "WORD", type := .int, accessFlags := 24, slot := 0, constantValue := 0 }]
  methods := #[k2m0, k2m1]
  instanceTypes := #[]
  staticTypes := #[.int]
  resolved := Array.replicate 57 none
  statics := none }

def pool3 : Array CpInfo := pool [(1, .class_ 2), (0, u "java/lang/Math"), (1, .class_ 6), (1, u "java/lang/Object"), (0, u "<init>"), (0, u "()V"), (89, .class_ 100), (1, u "java/lang/Math$RandomNumberGeneratorHolder"), (71, u "negativeZeroFloatBits"), (0, u "J"), (2, u "negativeZeroDoubleBits"), (24, u "min"), (43, u "$assertionsDisabled"), (0, u "Z"), (88, u "(II)I"), (2, u "twoToTheDoubleScaleDown"), (0, u "D"), (4, u "twoToTheDoubleScaleUp"), (9, u "E"), (3, u "PI"), (2, u "TAU"), (2, u "DEGREES_TO_RADIANS"), (0, u "RADIANS_TO_DEGREES")] 94

def k3m0 : Method := { name := "<init>", desc := "()V", sig := { parameters := [], returnType := none }, accessFlags := 2, code := none }
def k3c1 : Code := { maxStack := 2, maxLocals := 2, code := jdk_29_method_69_code, exceptionTable := #[], attributes := #[] }
def k3m1 : Method := { name := "min", desc := "(II)I", sig := { parameters := [.int, .int], returnType := some .int }, accessFlags := 9, code := some k3c1 }
/-- java/lang/Math -/
def k3 : Class := { plain "java/lang/Math" (some 0) with
  accessFlags := 49
  interfaces := #[]
  cf := some (fileOf pool3 1 #[.nestMembers #[98]] #[{ accessFlags := 2, nameIndex := 7, descriptorIndex := 8, attributes := #[] }, { accessFlags := 9, nameIndex := 201, descriptorIndex := 335, attributes := #[] }] 49 4 #[] #[{ accessFlags := 25, nameIndex := 354, descriptorIndex := 339, attributes := #[] }, { accessFlags := 25, nameIndex := 358, descriptorIndex := 339, attributes := #[] }, { accessFlags := 25, nameIndex := 361, descriptorIndex := 339, attributes := #[] }, { accessFlags := 26, nameIndex := 364, descriptorIndex := 339, attributes := #[] }, { accessFlags := 26, nameIndex := 365, descriptorIndex := 339, attributes := #[] }, { accessFlags := 26, nameIndex := 172, descriptorIndex := 173, attributes := #[] }, { accessFlags := 26, nameIndex := 176, descriptorIndex := 173, attributes := #[] }, { accessFlags := 8, nameIndex := 344, descriptorIndex := 339, attributes := #[] }, { accessFlags := 8, nameIndex := 338, descriptorIndex := 339, attributes := #[] }, { accessFlags := 4120, nameIndex := 245, descriptorIndex := 246, attributes := #[] }])
  fields := #[{ name := "E", type := .double, accessFlags := 25, slot := 0, constantValue := 0 }, { name := "PI", type := .double, accessFlags := 25, slot := 1, constantValue := 0 }, { name := "TAU", type := .double, accessFlags := 25, slot := 2, constantValue := 0 }, { name := "DEGREES_TO_RADIANS", type := .double, accessFlags := 26, slot := 3, constantValue := 0 }, { name := "RADIANS_TO_DEGREES", type := .double, accessFlags := 26, slot := 4, constantValue := 0 }, { name := "negativeZeroFloatBits", type := .long, accessFlags := 26, slot := 5, constantValue := 0 }, { name := "negativeZeroDoubleBits", type := .long, accessFlags := 26, slot := 6, constantValue := 0 }, { name := "twoToTheDoubleScaleUp", type := .double, accessFlags := 8, slot := 7, constantValue := 0 }, { name := "twoToTheDoubleScaleDown", type := .double, accessFlags := 8, slot := 8, constantValue := 0 }, { name := "$assertionsDisabled", type := .boolean, accessFlags := 4120, slot := 9, constantValue := 0 }]
  methods := #[k3m0, k3m1]
  instanceTypes := #[]
  staticTypes := #[.double, .double, .double, .double, .double, .long, .long, .double, .double, .boolean]
  resolved := Array.replicate 460 none
  statics := none }

def pool4 : Array CpInfo := pool [(1, u "java/lang/Cloneable"), (0, .class_ 1), (0, u "java/lang/Object"), (0, .class_ 3)] 3

/-- java/lang/Cloneable -/
def k4 : Class := { plain "java/lang/Cloneable" (some 0) with
  accessFlags := 1537
  interfaces := #[]
  cf := some (fileOf pool4 2 #[] #[] 1537 4 #[] #[])
  fields := #[]
  methods := #[]
  instanceTypes := #[]
  staticTypes := #[]
  resolved := Array.replicate 8 none
  statics := none }

def pool5 : Array CpInfo := pool [(1, u "java/io/Serializable"), (0, .class_ 1), (0, u "java/lang/Object"), (0, .class_ 3)] 3

/-- java/io/Serializable -/
def k5 : Class := { plain "java/io/Serializable" (some 0) with
  accessFlags := 1537
  interfaces := #[]
  cf := some (fileOf pool5 2 #[] #[] 1537 4 #[] #[])
  fields := #[]
  methods := #[]
  instanceTypes := #[]
  staticTypes := #[]
  resolved := Array.replicate 8 none
  statics := none }

/-- the primitive byte -/
def k6 : Class := { plain "byte" none with kind := .primitive 'B', accessFlags := 0x411 }
/-- [B -/
def k7 : Class := { plain "[B" (some 0) with kind := .array 6 .byte, interfaces := #[4, 5], accessFlags := 1041 }

/-- the primitive int -/
def k8 : Class := { plain "int" none with kind := .primitive 'I', accessFlags := 0x411 }
/-- [I -/
def k9 : Class := { plain "[I" (some 0) with kind := .array 8 .int, interfaces := #[4, 5], accessFlags := 1041 }

/-- the primitive long -/
def k10 : Class := { plain "long" none with kind := .primitive 'J', accessFlags := 0x411 }
/-- [J -/
def k11 : Class := { plain "[J" (some 0) with kind := .array 10 .long, interfaces := #[4, 5], accessFlags := 1041 }

def heap : Heap := #[]
def classes : Array Class := #[k0, k1, k2, k3, k4, k5, k6, k7, k8, k9, k10, k11]
def interned : List (Array UInt16 × Addr) := []
def slotsUsed : Nat := 0
def theMethod : MethodId := ⟨1, 3⟩
def args0 : Array Value := #[.long 5, .long 5, .int 5, .int 5]
def aboutOver (below : List Frame) : State where
  vm := { classes := classes, interned := interned.toArray }
  heap := heap
  slotsUsed := slotsUsed
  threads := #[{ frames := .invoking theMethod args0 :: below }]
def below0 : List Frame := [.native { method := ⟨0, 0⟩, args := #[] }]
def about1 : State := aboutOver below0
def p0 : Program := .bare "" "" ""
def e0 : Env := launch0.env 0 0 0
theorem w_frames : about1.frames = Frame.invoking theMethod args0 :: below0 := rfl
set_option maxRecDepth 65536 in
theorem w_args : argsFit about1.vm theMethod args0 = true := by decide +kernel
set_option maxRecDepth 65536 in
theorem w_heap : heapFits about1 = true := by decide +kernel
set_option maxRecDepth 65536 in
theorem w_runnable : about1.curStatus? = some .runnable := by decide +kernel
set_option maxRecDepth 65536 in
theorem w_alone : about1.alone = true := by decide +kernel
set_option maxRecDepth 65536 in
theorem w_named : about1.methodNamed? x = some theMethod := by decide +kernel
set_option maxRecDepth 65536 in
theorem w_hears : about1.hears theMethod below0 = true := by decide +kernel
set_option maxRecDepth 65536 in
theorem w_ripe : about1.ripe theMethod args0 below0 = true := by decide +kernel
theorem w_running : about1.status = .running := rfl
set_option maxRecDepth 65536 in
theorem w_room : about1.hasRoom e0.platform room_1 = true :=
  launch0.hasRoom_least _ room_1 (by decide +kernel) (by decide +kernel) (by decide +kernel) (by decide +kernel) (by decide +kernel) (by decide +kernel)
theorem allAtoms_all (ts : List Jvm.Cond) (a : Array Jvm.Value) (st : Jvm.State) : (allAtoms ts).before a st = ts.all (fun c => c.before a st) := by
  induction ts with
  | nil => rfl
  | cons c t ih =>
    show (Jvm.Cond.and c (allAtoms t)).before a st = _
    rw [Jvm.Cond.before_and, ih, List.all_cons]
def words1 : List Jvm.Cond := Jvm.Cond.code x code maxLocals ret :: tables_1
/-- a 'code' word, met by the world's own term for the bytes: nothing is compared byte by byte -/
theorem code_word {y : MethodName} {bytes : ByteArray} {mx : Nat} {rt : Option FieldType} {a : Array Value} {s : State} {m : MethodId} {meth : Method} {c : Code} (h1 : s.methodNamed? y = some m) (h2 : s.vm.method? m = some meth) (h3 : meth.code = some c) (h4 : c.code = bytes)
    (h5 : (c.maxLocals == mx && c.exceptionTable.isEmpty && decide (c.maxStack ≤ mostOperands) && decide (meth.sig.returnType = rt) && !meth.locks && decide (parseMethodDescriptor y.desc = some meth.sig)) = true) : (Jvm.Cond.code y bytes mx rt).before a s = true := by
  simp only [Bool.and_eq_true, beq_iff_eq, Bool.not_eq_true', decide_eq_true_eq] at h5
  obtain ⟨⟨⟨⟨⟨g1, g2⟩, g3⟩, g4⟩, g5⟩, g6⟩ := h5
  simp [Cond.before, Cond.holds, Cond.value, h1, h2, h3, h4, g1, g2, g3, g4, g5, g6]
def isCode : Jvm.Cond → Bool
  | .code _ _ _ _ => true
  | _ => false
theorem all_split {L : List Jvm.Cond} {P : Jvm.Cond → Bool} (h1 : L.all (fun c => isCode c || P c) = true) (h2 : ∀ c ∈ L.filter isCode, P c = true) : L.all P = true := by
  refine List.all_eq_true.mpr fun c hc => ?_
  have h := List.all_eq_true.mp h1 c hc
  rcases Bool.eq_false_or_eq_true (isCode c) with hi | hi
  · exact h2 c (List.mem_filter.mpr ⟨hc, hi⟩)
  · simpa [hi] using h
set_option maxRecDepth 65536 in
theorem w_c0 : (Jvm.Cond.code x code maxLocals ret).before args0 about1 = true := code_word (m := ⟨1, 3⟩) (meth := k1m3) (c := k1c3) (by decide +kernel) rfl rfl rfl (by decide +kernel)
set_option maxRecDepth 65536 in
theorem w_c1 : (Jvm.Cond.code ({ cls := "com/example/faithful_deputy/faithfuldeputy/BitsKeepOnlyPinLaw", name := "list", desc := "(IIIII)[I" } : Jvm.MethodName) method_3_code (5 : Nat) (Option.some (Jvm.ClassFile.FieldType.array Jvm.ClassFile.FieldType.int))).before args0 about1 = true := code_word (m := ⟨1, 2⟩) (meth := k1m2) (c := k1c2) (by decide +kernel) rfl rfl rfl (by decide +kernel)
set_option maxRecDepth 65536 in
theorem w_c2 : (Jvm.Cond.code ({ cls := "com/example/faithful_deputy/faithfuldeputy/BitsKeepOnlyPinLaw", name := "bitIn", desc := "(IIZ)J" } : Jvm.MethodName) method_2_code (3 : Nat) (Option.some Jvm.ClassFile.FieldType.long)).before args0 about1 = true := code_word (m := ⟨1, 1⟩) (meth := k1m1) (c := k1c1) (by decide +kernel) rfl rfl rfl (by decide +kernel)
set_option maxRecDepth 65536 in
theorem w_c3 : (Jvm.Cond.code ({ cls := "com/example/faithful_deputy/faithfuldeputy/Bits", name := "keepOnly", desc := "([J[I)Z" } : Jvm.MethodName) prog_2_method_8_code (8 : Nat) (Option.some Jvm.ClassFile.FieldType.boolean)).before args0 about1 = true := code_word (m := ⟨2, 1⟩) (meth := k2m1) (c := k2c1) (by decide +kernel) rfl rfl rfl (by decide +kernel)
set_option maxRecDepth 65536 in
theorem w_c4 : (Jvm.Cond.code ({ cls := "java/lang/Math", name := "min", desc := "(II)I" } : Jvm.MethodName) jdk_29_method_69_code (2 : Nat) (Option.some Jvm.ClassFile.FieldType.int)).before args0 about1 = true := code_word (m := ⟨3, 1⟩) (meth := k3m1) (c := k3c1) (by decide +kernel) rfl rfl rfl (by decide +kernel)
def codes1 : List Jvm.Cond := [Jvm.Cond.code x code maxLocals ret, Jvm.Cond.code ({ cls := "com/example/faithful_deputy/faithfuldeputy/BitsKeepOnlyPinLaw", name := "list", desc := "(IIIII)[I" } : Jvm.MethodName) method_3_code (5 : Nat) (Option.some (Jvm.ClassFile.FieldType.array Jvm.ClassFile.FieldType.int)), Jvm.Cond.code ({ cls := "com/example/faithful_deputy/faithfuldeputy/BitsKeepOnlyPinLaw", name := "bitIn", desc := "(IIZ)J" } : Jvm.MethodName) method_2_code (3 : Nat) (Option.some Jvm.ClassFile.FieldType.long), Jvm.Cond.code ({ cls := "com/example/faithful_deputy/faithfuldeputy/Bits", name := "keepOnly", desc := "([J[I)Z" } : Jvm.MethodName) prog_2_method_8_code (8 : Nat) (Option.some Jvm.ClassFile.FieldType.boolean), Jvm.Cond.code ({ cls := "java/lang/Math", name := "min", desc := "(II)I" } : Jvm.MethodName) jdk_29_method_69_code (2 : Nat) (Option.some Jvm.ClassFile.FieldType.int)]
set_option maxRecDepth 65536 in
theorem codes_eq : words1.filter isCode = codes1 := rfl
theorem w_codes : ∀ c ∈ words1.filter isCode, c.before args0 about1 = true := by
  rw [codes_eq]
  intro c hc
  simp only [codes1, List.mem_cons, List.not_mem_nil, or_false] at hc
  rcases hc with rfl | rfl | rfl | rfl | rfl
  · exact w_c0
  · exact w_c1
  · exact w_c2
  · exact w_c3
  · exact w_c4
set_option maxRecDepth 65536 in
theorem w_t1 : words1.all (fun c => isCode c || c.before args0 about1) = true := by decide +kernel
theorem w_tables : (allAtoms (Jvm.Cond.code x code maxLocals ret :: tables_1)).before args0 about1 = true := by
  rw [allAtoms_all]
  show words1.all (fun c => c.before args0 about1) = true
  refine all_split ?_ w_codes
  rw [w_t1]
set_option maxRecDepth 65536 in
theorem w_case : (Jvm.Cond.and given_1 narrow_1).before args0 about1 = true := by decide +kernel
theorem w_applies : (headSpec (Jvm.Cond.code x code maxLocals ret :: tables_1) room_1).applies x e0.platform about1 = true :=
  (Spec.applies_iff w_frames).mpr ⟨w_running, w_runnable, w_alone, w_named, w_hears, w_ripe, w_room, w_tables⟩
theorem atStart : AtStart classFile x code maxLocals ret World_1 tables_1 room_1 Calls_1 rest_1 Pre_1 launch0 p0 e0 about1 theMethod args0 below0 :=
  ⟨lists_1, trivial, launch0.admits_env _ _ _, launch0.least_env, fairChoices_fair.cas, fairChoices_fair.clock, w_frames, w_args, w_heap, w_applies, trivial, trivial, w_case⟩
end start1
theorem witness_1 : WitnessClaimed_1 := ⟨start1.p0, start1.e0, start1.about1, start1.theMethod, start1.args0, start1.below0, start1.atStart⟩
end Jvm.Pilot.@@N@@
