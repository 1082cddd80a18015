section
-- ===== PART A: goes FIRST, ahead of the names: the tables' words, and 'selects' of the private methods out of them =====
/-- a private method of a class that the tables say can be made, by its rows of tables_1 -/
def lw_okq (q : MethodName × Nat) : Prop := (q.1.cls ≠ "java/lang/invoke/MethodHandle" ∧ q.1.cls ≠ "java/lang/invoke/VarHandle") ∧ Cond.instantiable q.1.cls q.2 ∈ tables_1 ∧ Cond.privateMethod q.1 ∈ tables_1 ∧ Cond.instanceMethod q.1 ∈ tables_1
set_option maxRecDepth 100000
theorem lw_t1 {w : Cond} (h : w ∈ tables_1_1) : w ∈ tables_1 := List.mem_append_left _ h
theorem lw_t2 {w : Cond} (h : w ∈ tables_1_2) : w ∈ tables_1 := List.mem_append_right _ h
theorem lw_p0 : lw_okq (⟨"LongRowDesk", "from", "(I)I"⟩, 1) := ⟨⟨by decide +kernel, by decide +kernel⟩, lw_t1 (List.mem_of_getElem? (i := 13) rfl), lw_t1 (List.mem_of_getElem? (i := 43) rfl), lw_t1 (List.mem_of_getElem? (i := 44) rfl)⟩
theorem lw_p1 : lw_okq (⟨"LongRowDesk", "to", "(II)I"⟩, 1) := ⟨⟨by decide +kernel, by decide +kernel⟩, lw_t1 (List.mem_of_getElem? (i := 13) rfl), lw_t1 (List.mem_of_getElem? (i := 47) rfl), lw_t1 (List.mem_of_getElem? (i := 48) rfl)⟩
theorem lw_p2 : lw_okq (⟨"java/lang/NullPointerException", "getExtendedNPEMessage", "()Ljava/lang/String;"⟩, 8) := ⟨⟨by decide +kernel, by decide +kernel⟩, lw_t1 (List.mem_of_getElem? (i := 57) rfl), lw_t1 (List.mem_of_getElem? (i := 84) rfl), lw_t1 (List.mem_of_getElem? (i := 85) rfl)⟩
theorem lw_p3 : lw_okq (⟨"java/lang/Throwable", "fillInStackTrace", "(I)Ljava/lang/Throwable;"⟩, 6) := ⟨⟨by decide +kernel, by decide +kernel⟩, lw_t1 (List.mem_of_getElem? (i := 97) rfl), lw_t1 (List.mem_of_getElem? (i := 95) rfl), lw_t1 (List.mem_of_getElem? (i := 96) rfl)⟩
def lw_privs_1 : List (MethodName × Nat) := [(⟨"LongRowDesk", "from", "(I)I"⟩, 1), (⟨"LongRowDesk", "to", "(II)I"⟩, 1), (⟨"java/lang/NullPointerException", "getExtendedNPEMessage", "()Ljava/lang/String;"⟩, 8), (⟨"java/lang/Throwable", "fillInStackTrace", "(I)Ljava/lang/Throwable;"⟩, 6)]
theorem lw_r1 : ∀ q ∈ lw_privs_1, lw_okq q := List.forall_mem_cons.mpr ⟨lw_p0, List.forall_mem_cons.mpr ⟨lw_p1, List.forall_mem_cons.mpr ⟨lw_p2, List.forall_mem_cons.mpr ⟨lw_p3, fun _ h => absurd h List.not_mem_nil⟩⟩⟩⟩
def lw_privs : List (MethodName × Nat) := lw_privs_1
def lw_tbl : List Cond := k2_sels lw_privs ++ tables_1
theorem lw_privs_ok : ∀ q ∈ lw_privs, lw_okq q := lw_r1
-- ===== ONE list of words for every method: the tables' words that hold all through a run =====
def lw_all : List Cond := lw_tbl.filter goodWord
/-- a word of the tables by its place: claim/WORDS.tsv -/
theorem lw_w {w : Cond} (i : Nat) (h : lw_tbl[i]? = some w) (g : goodWord w = true) : w ∈ lw_all := List.mem_filter.mpr ⟨List.mem_of_getElem? h, g⟩
theorem lw_all_tbl {w : Cond} (h : w ∈ lw_all) : w ∈ lw_tbl := (List.mem_filter.mp h).1
theorem lw_self : GoodIn lw_all lw_all := fun w h => ⟨h, good_of_word (List.mem_filter.mp h).2⟩
/-- a class's field words, by their places -/
theorem lw_in (ws : List Cond) (ps : List Nat) (hp : ws = ps.filterMap (fun i => lw_tbl[i]?)) (hg : ws.all goodWord = true) : ∀ w ∈ ws, w ∈ lw_all := by
  intro w h
  have h1 := List.all_eq_true.mp hg w h
  rw [hp] at h
  obtain ⟨i, -, hi⟩ := List.mem_filterMap.mp h
  exact lw_w i hi h1
/-- the words of a contract for the method y with code b, L locals, answer r -/
abbrev ws_ (y : MethodName) (b : ByteArray) (L : Nat) (r : Option FieldType) : List Cond := Cond.code y b L r :: lw_all
theorem lw_meth {y : MethodName} {b : ByteArray} {L : Nat} {r : Option FieldType} (h : Cond.code y b L r ∈ lw_all) : GoodIn lw_all (ws_ y b L r) := by
  intro w hw
  rcases List.mem_cons.mp hw with e | e
  · rw [e]
    exact lw_self _ h
  · exact lw_self _ e
theorem lw_app {a c : List Cond} (ha : ∀ w ∈ a, w ∈ lw_all) (hc : GoodIn lw_all c) : GoodIn lw_all (a ++ c) := by
  intro w hw
  rcases List.mem_append.mp hw with e | e
  · exact lw_self w (ha w e)
  · exact hc w e
/-- what a call through an object asks: cwV n hts (lw_V ..) -/
theorem lw_V {own : String} {idx : Nat} {C : String} {y : MethodName} {b : ByteArray} {L : Nat} {r : Option FieldType} (h1 : Cond.methodLink own idx y ∈ lw_all) (h2 : Cond.instanceMethod y ∈ lw_all) (h3 : Cond.selects C y y ∈ lw_all) (h4 : Cond.initialized C ∈ lw_all) (h5 : Cond.code y b L r ∈ lw_all) : GoodIn lw_all (wsV own idx C y (ws_ y b L r)) := by
  refine lw_app ?_ (lw_meth h5)
  intro w hw
  simp only [List.mem_cons, List.not_mem_nil, or_false] at hw
  rcases hw with e | e | e | e
  · rw [e]; exact h1
  · rw [e]; exact h2
  · rw [e]; exact h3
  · rw [e]; exact h4
/-- what a static call asks: va_cwS n hts (lw_S ..) -/
theorem lw_S {own : String} {idx : Nat} {y : MethodName} {b : ByteArray} {L : Nat} {r : Option FieldType} (h1 : Cond.methodLink own idx y ∈ lw_all) (h2 : Cond.static y ∈ lw_all) (h3 : Cond.initialized y.cls ∈ lw_all) (h4 : Cond.code y b L r ∈ lw_all) : GoodIn lw_all (va_wsS own idx y (ws_ y b L r)) := by
  refine lw_app ?_ (lw_meth h4)
  intro w hw
  simp only [List.mem_cons, List.not_mem_nil, or_false] at hw
  rcases hw with e | e | e
  · rw [e]; exact h1
  · rw [e]; exact h2
  · rw [e]; exact h3
/-- the words of a contract for a method WITH HANDLERS (hh: its table) -/
abbrev wsW_ (y : MethodName) (b : ByteArray) (L : Nat) (r : Option FieldType) (hh : List (Nat × Nat × Nat × Nat)) : List Cond := Cond.codeWith y b L r hh :: lw_all
theorem lw_methW {y : MethodName} {b : ByteArray} {L : Nat} {r : Option FieldType} {hh : List (Nat × Nat × Nat × Nat)} (h : Cond.codeWith y b L r hh ∈ lw_all) : GoodIn lw_all (wsW_ y b L r hh) := by
  intro w hw
  rcases List.mem_cons.mp hw with e | e
  · rw [e]
    exact lw_self _ h
  · exact lw_self _ e
/-- any list of words by their places (lw_in), good -/
theorem lw_good {ws : List Cond} (h : ∀ w ∈ ws, w ∈ lw_all) : GoodIn lw_all ws := fun w hw => lw_self w (h w hw)
/-- what a call of a method with handlers asks: vx_cwVW n hts (lw_VW ..), vx_cwSW n hts (lw_SW ..) -/
theorem lw_VW {own : String} {idx : Nat} {C : String} {y : MethodName} {b : ByteArray} {L : Nat} {r : Option FieldType} {hh : List (Nat × Nat × Nat × Nat)} (h1 : Cond.methodLink own idx y ∈ lw_all) (h2 : Cond.instanceMethod y ∈ lw_all) (h3 : Cond.selects C y y ∈ lw_all) (h4 : Cond.initialized C ∈ lw_all) (h5 : Cond.codeWith y b L r hh ∈ lw_all) : GoodIn lw_all (wsV own idx C y (wsW_ y b L r hh)) := by
  refine lw_app ?_ (lw_methW h5)
  intro w hw
  simp only [List.mem_cons, List.not_mem_nil, or_false] at hw
  rcases hw with e | e | e | e
  · rw [e]; exact h1
  · rw [e]; exact h2
  · rw [e]; exact h3
  · rw [e]; exact h4
theorem lw_SW {own : String} {idx : Nat} {y : MethodName} {b : ByteArray} {L : Nat} {r : Option FieldType} {hh : List (Nat × Nat × Nat × Nat)} (h1 : Cond.methodLink own idx y ∈ lw_all) (h2 : Cond.static y ∈ lw_all) (h3 : Cond.initialized y.cls ∈ lw_all) (h4 : Cond.codeWith y b L r hh ∈ lw_all) : GoodIn lw_all (va_wsS own idx y (wsW_ y b L r hh)) := by
  refine lw_app ?_ (lw_methW h4)
  intro w hw
  simp only [List.mem_cons, List.not_mem_nil, or_false] at hw
  rcases hw with e | e | e
  · rw [e]; exact h1
  · rw [e]; exact h2
  · rw [e]; exact h3
/-- a word by its place in its run of the tables -/
theorem lw_at {r : List Cond} (hr : ∀ w ∈ r, w ∈ lw_tbl) {w : Cond} (i : Nat) (h : r[i]? = some w) : w ∈ lw_tbl := hr w (List.mem_of_getElem? h)
theorem lw_g {w : Cond} (h : w ∈ lw_tbl) (g : goodWord w = true) : w ∈ lw_all := List.mem_filter.mpr ⟨h, g⟩
theorem lw_ms : ∀ w ∈ k2_sels lw_privs, w ∈ lw_tbl := fun w h => show w ∈ k2_sels lw_privs ++ tables_1 from List.mem_append_left _ h
theorem lw_m1 : ∀ w ∈ tables_1_1, w ∈ lw_tbl := fun w h => show w ∈ k2_sels lw_privs ++ tables_1 from List.mem_append_right (k2_sels lw_privs) (show w ∈ tables_1 from List.mem_append_left _ h)
theorem lw_m2 : ∀ w ∈ tables_1_2, w ∈ lw_tbl := fun w h => show w ∈ k2_sels lw_privs ++ tables_1 from List.mem_append_right (k2_sels lw_privs) (show w ∈ tables_1 from List.mem_append_right _ h)
theorem qs0 : (Cond.selects "LongRowDesk" ⟨"LongRowDesk", "from", "(I)I"⟩ ⟨"LongRowDesk", "from", "(I)I"⟩) ∈ lw_all := lw_g (lw_at lw_ms 0 rfl) rfl
theorem qs1 : (Cond.selects "LongRowDesk" ⟨"LongRowDesk", "to", "(II)I"⟩ ⟨"LongRowDesk", "to", "(II)I"⟩) ∈ lw_all := lw_g (lw_at lw_ms 1 rfl) rfl
theorem qs2 : (Cond.selects "java/lang/NullPointerException" ⟨"java/lang/NullPointerException", "getExtendedNPEMessage", "()Ljava/lang/String;"⟩ ⟨"java/lang/NullPointerException", "getExtendedNPEMessage", "()Ljava/lang/String;"⟩) ∈ lw_all := lw_g (lw_at lw_ms 2 rfl) rfl
theorem qs3 : (Cond.selects "java/lang/Throwable" ⟨"java/lang/Throwable", "fillInStackTrace", "(I)Ljava/lang/Throwable;"⟩ ⟨"java/lang/Throwable", "fillInStackTrace", "(I)Ljava/lang/Throwable;"⟩) ∈ lw_all := lw_g (lw_at lw_ms 3 rfl) rfl
end
section
/-! names of LongRowDesk (X0) -/
set_option maxRecDepth 100000
def RX0 : String := "LongRowDesk"
def TX0 : u_T := fun k => match k with
  | _ => ("LongRowDesk", "row", "[J", true)
def tyX0 : Nat → FieldType := fun k => match k with
  | _ => .array .long
abbrev wsX00 : List Cond := u_ws RX0 TX0 1
theorem nmX0 : ∀ a, a < 1 → ∀ b, b < 1 → a ≠ b → (TX0 a).2.1 ≠ (TX0 b).2.1 := by decide +kernel
theorem tyX0_ok : ∀ k, k < 1 → parseFieldDescriptor (TX0 k).2.2.1 = some (tyX0 k) := by decide +kernel
abbrev cX0_init : ByteArray := prog_1_method_1_code
def yX0_init : MethodName := ⟨RX0, "<init>", "()V"⟩
theorem dX0_init_0 : decode cX0_init 0 = .ok (.aload_n 0, 1) := by decide +kernel
theorem dX0_init_1 : decode cX0_init 1 = .ok (.invokespecial 1, 3) := by decide +kernel
theorem dX0_init_4 : decode cX0_init 4 = .ok (.aload_n 0, 1) := by decide +kernel
theorem dX0_init_5 : decode cX0_init 5 = .ok (.bipush 12, 2) := by decide +kernel
theorem dX0_init_7 : decode cX0_init 7 = .ok (.newarray .long, 2) := by decide +kernel
theorem dX0_init_9 : decode cX0_init 9 = .ok (.putfield 7, 3) := by decide +kernel
theorem dX0_init_12 : decode cX0_init 12 = .ok (.return_, 1) := by decide +kernel
abbrev cX0_set : ByteArray := prog_1_method_3_code
def yX0_set : MethodName := ⟨RX0, "set", "(III)V"⟩
theorem dX0_set_0 : decode cX0_set 0 = .ok (.aload_n 0, 1) := by decide +kernel
theorem dX0_set_1 : decode cX0_set 1 = .ok (.getfield 7, 3) := by decide +kernel
theorem dX0_set_4 : decode cX0_set 4 = .ok (.iload_n 1, 1) := by decide +kernel
theorem dX0_set_5 : decode cX0_set 5 = .ok (.ldc 15, 2) := by decide +kernel
theorem dX0_set_7 : decode cX0_set 7 = .ok (.iand, 1) := by decide +kernel
theorem dX0_set_8 : decode cX0_set 8 = .ok (.bipush 12, 2) := by decide +kernel
theorem dX0_set_10 : decode cX0_set 10 = .ok (.irem, 1) := by decide +kernel
theorem dX0_set_11 : decode cX0_set 11 = .ok (.iload_n 2, 1) := by decide +kernel
theorem dX0_set_12 : decode cX0_set 12 = .ok (.iload_n 3, 1) := by decide +kernel
theorem dX0_set_13 : decode cX0_set 13 = .ok (.invokestatic 16, 3) := by decide +kernel
theorem dX0_set_16 : decode cX0_set 16 = .ok (.lastore, 1) := by decide +kernel
theorem dX0_set_17 : decode cX0_set 17 = .ok (.return_, 1) := by decide +kernel
abbrev cX0_wide : ByteArray := prog_1_method_2_code
def yX0_wide : MethodName := ⟨RX0, "wide", "(II)J"⟩
theorem dX0_wide_0 : decode cX0_wide 0 = .ok (.iload_n 0, 1) := by decide +kernel
theorem dX0_wide_1 : decode cX0_wide 1 = .ok (.i2l, 1) := by decide +kernel
theorem dX0_wide_2 : decode cX0_wide 2 = .ok (.bipush 32, 2) := by decide +kernel
theorem dX0_wide_4 : decode cX0_wide 4 = .ok (.lshl, 1) := by decide +kernel
theorem dX0_wide_5 : decode cX0_wide 5 = .ok (.iload_n 1, 1) := by decide +kernel
theorem dX0_wide_6 : decode cX0_wide 6 = .ok (.i2l, 1) := by decide +kernel
theorem dX0_wide_7 : decode cX0_wide 7 = .ok (.ldc2_w 13, 3) := by decide +kernel
theorem dX0_wide_10 : decode cX0_wide 10 = .ok (.land, 1) := by decide +kernel
theorem dX0_wide_11 : decode cX0_wide 11 = .ok (.lor, 1) := by decide +kernel
theorem dX0_wide_12 : decode cX0_wide 12 = .ok (.lreturn, 1) := by decide +kernel
abbrev cX0_get : ByteArray := prog_1_method_4_code
def yX0_get : MethodName := ⟨RX0, "get", "(I)J"⟩
theorem dX0_get_0 : decode cX0_get 0 = .ok (.aload_n 0, 1) := by decide +kernel
theorem dX0_get_1 : decode cX0_get 1 = .ok (.getfield 7, 3) := by decide +kernel
theorem dX0_get_4 : decode cX0_get 4 = .ok (.iload_n 1, 1) := by decide +kernel
theorem dX0_get_5 : decode cX0_get 5 = .ok (.ldc 15, 2) := by decide +kernel
theorem dX0_get_7 : decode cX0_get 7 = .ok (.iand, 1) := by decide +kernel
theorem dX0_get_8 : decode cX0_get 8 = .ok (.bipush 12, 2) := by decide +kernel
theorem dX0_get_10 : decode cX0_get 10 = .ok (.irem, 1) := by decide +kernel
theorem dX0_get_11 : decode cX0_get 11 = .ok (.laload, 1) := by decide +kernel
theorem dX0_get_12 : decode cX0_get 12 = .ok (.lreturn, 1) := by decide +kernel
abbrev cX0_reverse : ByteArray := prog_1_method_7_code
def yX0_reverse : MethodName := ⟨RX0, "reverse", "(II)V"⟩
theorem dX0_reverse_0 : decode cX0_reverse 0 = .ok (.aload_n 0, 1) := by decide +kernel
theorem dX0_reverse_1 : decode cX0_reverse 1 = .ok (.iload_n 1, 1) := by decide +kernel
theorem dX0_reverse_2 : decode cX0_reverse 2 = .ok (.invokevirtual 20, 3) := by decide +kernel
theorem dX0_reverse_5 : decode cX0_reverse 5 = .ok (.istore_n 3, 1) := by decide +kernel
theorem dX0_reverse_6 : decode cX0_reverse 6 = .ok (.aload_n 0, 1) := by decide +kernel
theorem dX0_reverse_7 : decode cX0_reverse 7 = .ok (.getfield 7, 3) := by decide +kernel
theorem dX0_reverse_10 : decode cX0_reverse 10 = .ok (.iload_n 3, 1) := by decide +kernel
theorem dX0_reverse_11 : decode cX0_reverse 11 = .ok (.aload_n 0, 1) := by decide +kernel
theorem dX0_reverse_12 : decode cX0_reverse 12 = .ok (.iload_n 3, 1) := by decide +kernel
theorem dX0_reverse_13 : decode cX0_reverse 13 = .ok (.iload_n 2, 1) := by decide +kernel
theorem dX0_reverse_14 : decode cX0_reverse 14 = .ok (.invokevirtual 24, 3) := by decide +kernel
theorem dX0_reverse_17 : decode cX0_reverse 17 = .ok (.invokestatic 28, 3) := by decide +kernel
theorem dX0_reverse_20 : decode cX0_reverse 20 = .ok (.return_, 1) := by decide +kernel
abbrev cX0_from : ByteArray := prog_1_method_5_code
def yX0_from : MethodName := ⟨RX0, "from", "(I)I"⟩
theorem dX0_from_0 : decode cX0_from 0 = .ok (.iload_n 1, 1) := by decide +kernel
theorem dX0_from_1 : decode cX0_from 1 = .ok (.ldc 15, 2) := by decide +kernel
theorem dX0_from_3 : decode cX0_from 3 = .ok (.iand, 1) := by decide +kernel
theorem dX0_from_4 : decode cX0_from 4 = .ok (.bipush 13, 2) := by decide +kernel
theorem dX0_from_6 : decode cX0_from 6 = .ok (.irem, 1) := by decide +kernel
theorem dX0_from_7 : decode cX0_from 7 = .ok (.ireturn, 1) := by decide +kernel
abbrev cX0_to : ByteArray := prog_1_method_6_code
def yX0_to : MethodName := ⟨RX0, "to", "(II)I"⟩
theorem dX0_to_0 : decode cX0_to 0 = .ok (.iload_n 1, 1) := by decide +kernel
theorem dX0_to_1 : decode cX0_to 1 = .ok (.iload_n 2, 1) := by decide +kernel
theorem dX0_to_2 : decode cX0_to 2 = .ok (.ldc 15, 2) := by decide +kernel
theorem dX0_to_4 : decode cX0_to 4 = .ok (.iand, 1) := by decide +kernel
theorem dX0_to_5 : decode cX0_to 5 = .ok (.bipush 13, 2) := by decide +kernel
theorem dX0_to_7 : decode cX0_to 7 = .ok (.iload_n 1, 1) := by decide +kernel
theorem dX0_to_8 : decode cX0_to 8 = .ok (.isub, 1) := by decide +kernel
theorem dX0_to_9 : decode cX0_to 9 = .ok (.irem, 1) := by decide +kernel
theorem dX0_to_10 : decode cX0_to 10 = .ok (.iadd, 1) := by decide +kernel
theorem dX0_to_11 : decode cX0_to 11 = .ok (.ireturn, 1) := by decide +kernel
abbrev cX0_most : ByteArray := prog_1_method_8_code
def yX0_most : MethodName := ⟨RX0, "most", "()J"⟩
theorem dX0_most_0 : decode cX0_most 0 = .ok (.aload_n 0, 1) := by decide +kernel
theorem dX0_most_1 : decode cX0_most 1 = .ok (.getfield 7, 3) := by decide +kernel
theorem dX0_most_4 : decode cX0_most 4 = .ok (.invokestatic 34, 3) := by decide +kernel
theorem dX0_most_7 : decode cX0_most 7 = .ok (.lreturn, 1) := by decide +kernel
abbrev cX0_least : ByteArray := prog_1_method_9_code
def yX0_least : MethodName := ⟨RX0, "least", "()J"⟩
theorem dX0_least_0 : decode cX0_least 0 = .ok (.aload_n 0, 1) := by decide +kernel
theorem dX0_least_1 : decode cX0_least 1 = .ok (.getfield 7, 3) := by decide +kernel
theorem dX0_least_4 : decode cX0_least 4 = .ok (.invokestatic 38, 3) := by decide +kernel
theorem dX0_least_7 : decode cX0_least 7 = .ok (.lreturn, 1) := by decide +kernel
abbrev cX0_find : ByteArray := prog_1_method_10_code
def yX0_find : MethodName := ⟨RX0, "find", "(II)I"⟩
theorem dX0_find_0 : decode cX0_find 0 = .ok (.aload_n 0, 1) := by decide +kernel
theorem dX0_find_1 : decode cX0_find 1 = .ok (.getfield 7, 3) := by decide +kernel
theorem dX0_find_4 : decode cX0_find 4 = .ok (.iload_n 1, 1) := by decide +kernel
theorem dX0_find_5 : decode cX0_find 5 = .ok (.iload_n 2, 1) := by decide +kernel
theorem dX0_find_6 : decode cX0_find 6 = .ok (.invokestatic 16, 3) := by decide +kernel
theorem dX0_find_9 : decode cX0_find 9 = .ok (.invokestatic 41, 3) := by decide +kernel
theorem dX0_find_12 : decode cX0_find 12 = .ok (.ireturn, 1) := by decide +kernel
abbrev cX0_findLast : ByteArray := prog_1_method_11_code
def yX0_findLast : MethodName := ⟨RX0, "findLast", "(II)I"⟩
theorem dX0_findLast_0 : decode cX0_findLast 0 = .ok (.aload_n 0, 1) := by decide +kernel
theorem dX0_findLast_1 : decode cX0_findLast 1 = .ok (.getfield 7, 3) := by decide +kernel
theorem dX0_findLast_4 : decode cX0_findLast 4 = .ok (.iload_n 1, 1) := by decide +kernel
theorem dX0_findLast_5 : decode cX0_findLast 5 = .ok (.iload_n 2, 1) := by decide +kernel
theorem dX0_findLast_6 : decode cX0_findLast 6 = .ok (.invokestatic 16, 3) := by decide +kernel
theorem dX0_findLast_9 : decode cX0_findLast 9 = .ok (.invokestatic 45, 3) := by decide +kernel
theorem dX0_findLast_12 : decode cX0_findLast 12 = .ok (.ireturn, 1) := by decide +kernel
abbrev cX0_has : ByteArray := prog_1_method_12_code
def yX0_has : MethodName := ⟨RX0, "has", "(II)Z"⟩
theorem dX0_has_0 : decode cX0_has 0 = .ok (.aload_n 0, 1) := by decide +kernel
theorem dX0_has_1 : decode cX0_has 1 = .ok (.getfield 7, 3) := by decide +kernel
theorem dX0_has_4 : decode cX0_has 4 = .ok (.iload_n 1, 1) := by decide +kernel
theorem dX0_has_5 : decode cX0_has 5 = .ok (.iload_n 2, 1) := by decide +kernel
theorem dX0_has_6 : decode cX0_has 6 = .ok (.invokestatic 16, 3) := by decide +kernel
theorem dX0_has_9 : decode cX0_has 9 = .ok (.invokestatic 48, 3) := by decide +kernel
theorem dX0_has_12 : decode cX0_has 12 = .ok (.ireturn, 1) := by decide +kernel
abbrev cX0_ofBytes : ByteArray := prog_1_method_13_code
def yX0_ofBytes : MethodName := ⟨RX0, "ofBytes", "(II)J"⟩
theorem dX0_ofBytes_0 : decode cX0_ofBytes 0 = .ok (.iload_n 1, 1) := by decide +kernel
theorem dX0_ofBytes_1 : decode cX0_ofBytes 1 = .ok (.bipush 24, 2) := by decide +kernel
theorem dX0_ofBytes_3 : decode cX0_ofBytes 3 = .ok (.ishr, 1) := by decide +kernel
theorem dX0_ofBytes_4 : decode cX0_ofBytes 4 = .ok (.i2b, 1) := by decide +kernel
theorem dX0_ofBytes_5 : decode cX0_ofBytes 5 = .ok (.iload_n 1, 1) := by decide +kernel
theorem dX0_ofBytes_6 : decode cX0_ofBytes 6 = .ok (.bipush 16, 2) := by decide +kernel
theorem dX0_ofBytes_8 : decode cX0_ofBytes 8 = .ok (.ishr, 1) := by decide +kernel
theorem dX0_ofBytes_9 : decode cX0_ofBytes 9 = .ok (.i2b, 1) := by decide +kernel
theorem dX0_ofBytes_10 : decode cX0_ofBytes 10 = .ok (.iload_n 1, 1) := by decide +kernel
theorem dX0_ofBytes_11 : decode cX0_ofBytes 11 = .ok (.bipush 8, 2) := by decide +kernel
theorem dX0_ofBytes_13 : decode cX0_ofBytes 13 = .ok (.ishr, 1) := by decide +kernel
theorem dX0_ofBytes_14 : decode cX0_ofBytes 14 = .ok (.i2b, 1) := by decide +kernel
theorem dX0_ofBytes_15 : decode cX0_ofBytes 15 = .ok (.iload_n 1, 1) := by decide +kernel
theorem dX0_ofBytes_16 : decode cX0_ofBytes 16 = .ok (.i2b, 1) := by decide +kernel
theorem dX0_ofBytes_17 : decode cX0_ofBytes 17 = .ok (.iload_n 2, 1) := by decide +kernel
theorem dX0_ofBytes_18 : decode cX0_ofBytes 18 = .ok (.bipush 24, 2) := by decide +kernel
theorem dX0_ofBytes_20 : decode cX0_ofBytes 20 = .ok (.ishr, 1) := by decide +kernel
theorem dX0_ofBytes_21 : decode cX0_ofBytes 21 = .ok (.i2b, 1) := by decide +kernel
theorem dX0_ofBytes_22 : decode cX0_ofBytes 22 = .ok (.iload_n 2, 1) := by decide +kernel
theorem dX0_ofBytes_23 : decode cX0_ofBytes 23 = .ok (.bipush 16, 2) := by decide +kernel
theorem dX0_ofBytes_25 : decode cX0_ofBytes 25 = .ok (.ishr, 1) := by decide +kernel
theorem dX0_ofBytes_26 : decode cX0_ofBytes 26 = .ok (.i2b, 1) := by decide +kernel
theorem dX0_ofBytes_27 : decode cX0_ofBytes 27 = .ok (.iload_n 2, 1) := by decide +kernel
theorem dX0_ofBytes_28 : decode cX0_ofBytes 28 = .ok (.bipush 8, 2) := by decide +kernel
theorem dX0_ofBytes_30 : decode cX0_ofBytes 30 = .ok (.ishr, 1) := by decide +kernel
theorem dX0_ofBytes_31 : decode cX0_ofBytes 31 = .ok (.i2b, 1) := by decide +kernel
theorem dX0_ofBytes_32 : decode cX0_ofBytes 32 = .ok (.iload_n 2, 1) := by decide +kernel
theorem dX0_ofBytes_33 : decode cX0_ofBytes 33 = .ok (.i2b, 1) := by decide +kernel
theorem dX0_ofBytes_34 : decode cX0_ofBytes 34 = .ok (.invokestatic 52, 3) := by decide +kernel
theorem dX0_ofBytes_37 : decode cX0_ofBytes 37 = .ok (.lreturn, 1) := by decide +kernel
abbrev cX0_letter : ByteArray := prog_1_method_14_code
def yX0_letter : MethodName := ⟨RX0, "letter", "(II)I"⟩
theorem dX0_letter_0 : decode cX0_letter 0 = .ok (.aload_n 0, 1) := by decide +kernel
theorem dX0_letter_1 : decode cX0_letter 1 = .ok (.getfield 7, 3) := by decide +kernel
theorem dX0_letter_4 : decode cX0_letter 4 = .ok (.iload_n 1, 1) := by decide +kernel
theorem dX0_letter_5 : decode cX0_letter 5 = .ok (.ldc 15, 2) := by decide +kernel
theorem dX0_letter_7 : decode cX0_letter 7 = .ok (.iand, 1) := by decide +kernel
theorem dX0_letter_8 : decode cX0_letter 8 = .ok (.bipush 12, 2) := by decide +kernel
theorem dX0_letter_10 : decode cX0_letter 10 = .ok (.irem, 1) := by decide +kernel
theorem dX0_letter_11 : decode cX0_letter 11 = .ok (.laload, 1) := by decide +kernel
theorem dX0_letter_12 : decode cX0_letter 12 = .ok (.invokestatic 56, 3) := by decide +kernel
theorem dX0_letter_15 : decode cX0_letter 15 = .ok (.iload_n 2, 1) := by decide +kernel
theorem dX0_letter_16 : decode cX0_letter 16 = .ok (.bipush 7, 2) := by decide +kernel
theorem dX0_letter_18 : decode cX0_letter 18 = .ok (.iand, 1) := by decide +kernel
theorem dX0_letter_19 : decode cX0_letter 19 = .ok (.baload, 1) := by decide +kernel
theorem dX0_letter_20 : decode cX0_letter 20 = .ok (.sipush 255, 3) := by decide +kernel
theorem dX0_letter_23 : decode cX0_letter 23 = .ok (.iand, 1) := by decide +kernel
theorem dX0_letter_24 : decode cX0_letter 24 = .ok (.ireturn, 1) := by decide +kernel
abbrev cX0_within : ByteArray := prog_1_method_15_code
def yX0_within : MethodName := ⟨RX0, "within", "(III)J"⟩
theorem dX0_within_0 : decode cX0_within 0 = .ok (.aload_n 0, 1) := by decide +kernel
theorem dX0_within_1 : decode cX0_within 1 = .ok (.getfield 7, 3) := by decide +kernel
theorem dX0_within_4 : decode cX0_within 4 = .ok (.iload_n 2, 1) := by decide +kernel
theorem dX0_within_5 : decode cX0_within 5 = .ok (.ldc 15, 2) := by decide +kernel
theorem dX0_within_7 : decode cX0_within 7 = .ok (.iand, 1) := by decide +kernel
theorem dX0_within_8 : decode cX0_within 8 = .ok (.bipush 12, 2) := by decide +kernel
theorem dX0_within_10 : decode cX0_within 10 = .ok (.irem, 1) := by decide +kernel
theorem dX0_within_11 : decode cX0_within 11 = .ok (.laload, 1) := by decide +kernel
theorem dX0_within_12 : decode cX0_within 12 = .ok (.lstore 4, 2) := by decide +kernel
theorem dX0_within_14 : decode cX0_within 14 = .ok (.aload_n 0, 1) := by decide +kernel
theorem dX0_within_15 : decode cX0_within 15 = .ok (.getfield 7, 3) := by decide +kernel
theorem dX0_within_18 : decode cX0_within 18 = .ok (.iload_n 3, 1) := by decide +kernel
theorem dX0_within_19 : decode cX0_within 19 = .ok (.ldc 15, 2) := by decide +kernel
theorem dX0_within_21 : decode cX0_within 21 = .ok (.iand, 1) := by decide +kernel
theorem dX0_within_22 : decode cX0_within 22 = .ok (.bipush 12, 2) := by decide +kernel
theorem dX0_within_24 : decode cX0_within 24 = .ok (.irem, 1) := by decide +kernel
theorem dX0_within_25 : decode cX0_within 25 = .ok (.laload, 1) := by decide +kernel
theorem dX0_within_26 : decode cX0_within 26 = .ok (.lstore 6, 2) := by decide +kernel
theorem dX0_within_28 : decode cX0_within 28 = .ok (.aload_n 0, 1) := by decide +kernel
theorem dX0_within_29 : decode cX0_within 29 = .ok (.getfield 7, 3) := by decide +kernel
theorem dX0_within_32 : decode cX0_within 32 = .ok (.iload_n 1, 1) := by decide +kernel
theorem dX0_within_33 : decode cX0_within 33 = .ok (.ldc 15, 2) := by decide +kernel
theorem dX0_within_35 : decode cX0_within 35 = .ok (.iand, 1) := by decide +kernel
theorem dX0_within_36 : decode cX0_within 36 = .ok (.bipush 12, 2) := by decide +kernel
theorem dX0_within_38 : decode cX0_within 38 = .ok (.irem, 1) := by decide +kernel
theorem dX0_within_39 : decode cX0_within 39 = .ok (.laload, 1) := by decide +kernel
theorem dX0_within_40 : decode cX0_within 40 = .ok (.lload 4, 2) := by decide +kernel
theorem dX0_within_42 : decode cX0_within 42 = .ok (.lload 6, 2) := by decide +kernel
theorem dX0_within_44 : decode cX0_within 44 = .ok (.lcmp, 1) := by decide +kernel
theorem dX0_within_45 : decode cX0_within 45 = .ok (.ifCond .ge 8, 3) := by decide +kernel
theorem dX0_within_48 : decode cX0_within 48 = .ok (.lload 4, 2) := by decide +kernel
theorem dX0_within_50 : decode cX0_within 50 = .ok (.goto 5, 3) := by decide +kernel
theorem dX0_within_53 : decode cX0_within 53 = .ok (.lload 6, 2) := by decide +kernel
theorem dX0_within_55 : decode cX0_within 55 = .ok (.lload 4, 2) := by decide +kernel
theorem dX0_within_57 : decode cX0_within 57 = .ok (.lload 6, 2) := by decide +kernel
theorem dX0_within_59 : decode cX0_within 59 = .ok (.lcmp, 1) := by decide +kernel
theorem dX0_within_60 : decode cX0_within 60 = .ok (.ifCond .ge 8, 3) := by decide +kernel
theorem dX0_within_63 : decode cX0_within 63 = .ok (.lload 6, 2) := by decide +kernel
theorem dX0_within_65 : decode cX0_within 65 = .ok (.goto 5, 3) := by decide +kernel
theorem dX0_within_68 : decode cX0_within 68 = .ok (.lload 4, 2) := by decide +kernel
theorem dX0_within_70 : decode cX0_within 70 = .ok (.invokestatic 60, 3) := by decide +kernel
theorem dX0_within_73 : decode cX0_within 73 = .ok (.lreturn, 1) := by decide +kernel
theorem q5 : (Jvm.Cond.initialized "LongRowDesk") ∈ lw_all := lw_g (lw_at lw_m1 1 rfl) rfl
theorem q17 : (Jvm.Cond.instantiable "LongRowDesk" (1 : Nat)) ∈ lw_all := lw_g (lw_at lw_m1 13 rfl) rfl
theorem q19 : (Jvm.Cond.instanceMethod ({ cls := "LongRowDesk", name := "<init>", desc := "()V" } : Jvm.MethodName)) ∈ lw_all := lw_g (lw_at lw_m1 15 rfl) rfl
theorem q20 : (Jvm.Cond.code ({ cls := "LongRowDesk", name := "<init>", desc := "()V" } : Jvm.MethodName) prog_1_method_1_code (1 : Nat) (Option.none : Option Jvm.ClassFile.FieldType)) ∈ lw_all := lw_g (lw_at lw_m1 16 rfl) rfl
theorem q21 : (Jvm.Cond.methodLink "LongRowDesk" (1 : Nat) ({ cls := "java/lang/Object", name := "<init>", desc := "()V" } : Jvm.MethodName)) ∈ lw_all := lw_g (lw_at lw_m1 17 rfl) rfl
theorem q24 : (Jvm.Cond.fieldLink "LongRowDesk" (7 : Nat) "LongRowDesk" "row" "[J") ∈ lw_all := lw_g (lw_at lw_m1 20 rfl) rfl
theorem q25 : (Jvm.Cond.laysFinal "LongRowDesk" "LongRowDesk" "row" "[J") ∈ lw_all := lw_g (lw_at lw_m1 21 rfl) rfl
theorem q26 : (Jvm.Cond.soleField "LongRowDesk" "row") ∈ lw_all := lw_g (lw_at lw_m1 22 rfl) rfl
theorem q27 : (Jvm.Cond.superclass "LongRowDesk" "java/lang/Object") ∈ lw_all := lw_g (lw_at lw_m1 23 rfl) rfl
theorem q30 : (Jvm.Cond.instanceMethod ({ cls := "LongRowDesk", name := "set", desc := "(III)V" } : Jvm.MethodName)) ∈ lw_all := lw_g (lw_at lw_m1 26 rfl) rfl
theorem q31 : (Jvm.Cond.selects "LongRowDesk" ({ cls := "LongRowDesk", name := "set", desc := "(III)V" } : Jvm.MethodName) ({ cls := "LongRowDesk", name := "set", desc := "(III)V" } : Jvm.MethodName)) ∈ lw_all := lw_g (lw_at lw_m1 27 rfl) rfl
theorem q32 : (Jvm.Cond.code ({ cls := "LongRowDesk", name := "set", desc := "(III)V" } : Jvm.MethodName) prog_1_method_3_code (4 : Nat) (Option.none : Option Jvm.ClassFile.FieldType)) ∈ lw_all := lw_g (lw_at lw_m1 28 rfl) rfl
theorem q33 : (Jvm.Cond.constant "LongRowDesk" (15 : Nat) (2147483647 : Int32)) ∈ lw_all := lw_g (lw_at lw_m1 29 rfl) rfl
theorem q34 : (Jvm.Cond.methodLink "LongRowDesk" (16 : Nat) ({ cls := "LongRowDesk", name := "wide", desc := "(II)J" } : Jvm.MethodName)) ∈ lw_all := lw_g (lw_at lw_m1 30 rfl) rfl
theorem q35 : (Jvm.Cond.static ({ cls := "LongRowDesk", name := "wide", desc := "(II)J" } : Jvm.MethodName)) ∈ lw_all := lw_g (lw_at lw_m1 31 rfl) rfl
theorem q36 : (Jvm.Cond.code ({ cls := "LongRowDesk", name := "wide", desc := "(II)J" } : Jvm.MethodName) prog_1_method_2_code (2 : Nat) (Option.some Jvm.ClassFile.FieldType.long)) ∈ lw_all := lw_g (lw_at lw_m1 32 rfl) rfl
theorem q37 : (Jvm.Cond.constantLong "LongRowDesk" (13 : Nat) (4294967295 : Int64)) ∈ lw_all := lw_g (lw_at lw_m1 33 rfl) rfl
theorem q39 : (Jvm.Cond.instanceMethod ({ cls := "LongRowDesk", name := "get", desc := "(I)J" } : Jvm.MethodName)) ∈ lw_all := lw_g (lw_at lw_m1 35 rfl) rfl
theorem q40 : (Jvm.Cond.selects "LongRowDesk" ({ cls := "LongRowDesk", name := "get", desc := "(I)J" } : Jvm.MethodName) ({ cls := "LongRowDesk", name := "get", desc := "(I)J" } : Jvm.MethodName)) ∈ lw_all := lw_g (lw_at lw_m1 36 rfl) rfl
theorem q41 : (Jvm.Cond.code ({ cls := "LongRowDesk", name := "get", desc := "(I)J" } : Jvm.MethodName) prog_1_method_4_code (2 : Nat) (Option.some Jvm.ClassFile.FieldType.long)) ∈ lw_all := lw_g (lw_at lw_m1 37 rfl) rfl
theorem q43 : (Jvm.Cond.instanceMethod ({ cls := "LongRowDesk", name := "reverse", desc := "(II)V" } : Jvm.MethodName)) ∈ lw_all := lw_g (lw_at lw_m1 39 rfl) rfl
theorem q44 : (Jvm.Cond.selects "LongRowDesk" ({ cls := "LongRowDesk", name := "reverse", desc := "(II)V" } : Jvm.MethodName) ({ cls := "LongRowDesk", name := "reverse", desc := "(II)V" } : Jvm.MethodName)) ∈ lw_all := lw_g (lw_at lw_m1 40 rfl) rfl
theorem q45 : (Jvm.Cond.code ({ cls := "LongRowDesk", name := "reverse", desc := "(II)V" } : Jvm.MethodName) prog_1_method_7_code (4 : Nat) (Option.none : Option Jvm.ClassFile.FieldType)) ∈ lw_all := lw_g (lw_at lw_m1 41 rfl) rfl
theorem q46 : (Jvm.Cond.methodLink "LongRowDesk" (20 : Nat) ({ cls := "LongRowDesk", name := "from", desc := "(I)I" } : Jvm.MethodName)) ∈ lw_all := lw_g (lw_at lw_m1 42 rfl) rfl
theorem q47 : (Jvm.Cond.privateMethod ({ cls := "LongRowDesk", name := "from", desc := "(I)I" } : Jvm.MethodName)) ∈ lw_tbl := lw_at lw_m1 43 rfl
theorem q48 : (Jvm.Cond.instanceMethod ({ cls := "LongRowDesk", name := "from", desc := "(I)I" } : Jvm.MethodName)) ∈ lw_all := lw_g (lw_at lw_m1 44 rfl) rfl
theorem q49 : (Jvm.Cond.code ({ cls := "LongRowDesk", name := "from", desc := "(I)I" } : Jvm.MethodName) prog_1_method_5_code (2 : Nat) (Option.some Jvm.ClassFile.FieldType.int)) ∈ lw_all := lw_g (lw_at lw_m1 45 rfl) rfl
theorem q50 : (Jvm.Cond.methodLink "LongRowDesk" (24 : Nat) ({ cls := "LongRowDesk", name := "to", desc := "(II)I" } : Jvm.MethodName)) ∈ lw_all := lw_g (lw_at lw_m1 46 rfl) rfl
theorem q51 : (Jvm.Cond.privateMethod ({ cls := "LongRowDesk", name := "to", desc := "(II)I" } : Jvm.MethodName)) ∈ lw_tbl := lw_at lw_m1 47 rfl
theorem q52 : (Jvm.Cond.instanceMethod ({ cls := "LongRowDesk", name := "to", desc := "(II)I" } : Jvm.MethodName)) ∈ lw_all := lw_g (lw_at lw_m1 48 rfl) rfl
theorem q53 : (Jvm.Cond.code ({ cls := "LongRowDesk", name := "to", desc := "(II)I" } : Jvm.MethodName) prog_1_method_6_code (3 : Nat) (Option.some Jvm.ClassFile.FieldType.int)) ∈ lw_all := lw_g (lw_at lw_m1 49 rfl) rfl
theorem q54 : (Jvm.Cond.methodLink "LongRowDesk" (28 : Nat) ({ cls := "Longs", name := "reverse", desc := "([JII)V" } : Jvm.MethodName)) ∈ lw_all := lw_g (lw_at lw_m1 50 rfl) rfl
theorem q168 : (Jvm.Cond.instanceMethod ({ cls := "LongRowDesk", name := "most", desc := "()J" } : Jvm.MethodName)) ∈ lw_all := lw_g (lw_at lw_m1 164 rfl) rfl
theorem q169 : (Jvm.Cond.selects "LongRowDesk" ({ cls := "LongRowDesk", name := "most", desc := "()J" } : Jvm.MethodName) ({ cls := "LongRowDesk", name := "most", desc := "()J" } : Jvm.MethodName)) ∈ lw_all := lw_g (lw_at lw_m1 165 rfl) rfl
theorem q170 : (Jvm.Cond.code ({ cls := "LongRowDesk", name := "most", desc := "()J" } : Jvm.MethodName) prog_1_method_8_code (1 : Nat) (Option.some Jvm.ClassFile.FieldType.long)) ∈ lw_all := lw_g (lw_at lw_m1 166 rfl) rfl
theorem q171 : (Jvm.Cond.methodLink "LongRowDesk" (34 : Nat) ({ cls := "Longs", name := "max", desc := "([J)J" } : Jvm.MethodName)) ∈ lw_all := lw_g (lw_at lw_m1 167 rfl) rfl
theorem q193 : (Jvm.Cond.instanceMethod ({ cls := "LongRowDesk", name := "least", desc := "()J" } : Jvm.MethodName)) ∈ lw_all := lw_g (lw_at lw_m1 189 rfl) rfl
theorem q194 : (Jvm.Cond.selects "LongRowDesk" ({ cls := "LongRowDesk", name := "least", desc := "()J" } : Jvm.MethodName) ({ cls := "LongRowDesk", name := "least", desc := "()J" } : Jvm.MethodName)) ∈ lw_all := lw_g (lw_at lw_m1 190 rfl) rfl
theorem q195 : (Jvm.Cond.code ({ cls := "LongRowDesk", name := "least", desc := "()J" } : Jvm.MethodName) prog_1_method_9_code (1 : Nat) (Option.some Jvm.ClassFile.FieldType.long)) ∈ lw_all := lw_g (lw_at lw_m1 191 rfl) rfl
theorem q196 : (Jvm.Cond.methodLink "LongRowDesk" (38 : Nat) ({ cls := "Longs", name := "min", desc := "([J)J" } : Jvm.MethodName)) ∈ lw_all := lw_g (lw_at lw_m1 192 rfl) rfl
theorem q200 : (Jvm.Cond.instanceMethod ({ cls := "LongRowDesk", name := "find", desc := "(II)I" } : Jvm.MethodName)) ∈ lw_all := lw_g (lw_at lw_m1 196 rfl) rfl
theorem q201 : (Jvm.Cond.selects "LongRowDesk" ({ cls := "LongRowDesk", name := "find", desc := "(II)I" } : Jvm.MethodName) ({ cls := "LongRowDesk", name := "find", desc := "(II)I" } : Jvm.MethodName)) ∈ lw_all := lw_g (lw_at lw_m1 197 rfl) rfl
theorem q202 : (Jvm.Cond.code ({ cls := "LongRowDesk", name := "find", desc := "(II)I" } : Jvm.MethodName) prog_1_method_10_code (3 : Nat) (Option.some Jvm.ClassFile.FieldType.int)) ∈ lw_all := lw_g (lw_at lw_m1 198 rfl) rfl
theorem q203 : (Jvm.Cond.methodLink "LongRowDesk" (41 : Nat) ({ cls := "Longs", name := "indexOf", desc := "([JJ)I" } : Jvm.MethodName)) ∈ lw_all := lw_g (lw_at lw_m1 199 rfl) rfl
theorem q210 : (Jvm.Cond.instanceMethod ({ cls := "LongRowDesk", name := "findLast", desc := "(II)I" } : Jvm.MethodName)) ∈ lw_all := lw_g (lw_at lw_m1 206 rfl) rfl
theorem q211 : (Jvm.Cond.selects "LongRowDesk" ({ cls := "LongRowDesk", name := "findLast", desc := "(II)I" } : Jvm.MethodName) ({ cls := "LongRowDesk", name := "findLast", desc := "(II)I" } : Jvm.MethodName)) ∈ lw_all := lw_g (lw_at lw_m1 207 rfl) rfl
theorem q212 : (Jvm.Cond.code ({ cls := "LongRowDesk", name := "findLast", desc := "(II)I" } : Jvm.MethodName) prog_1_method_11_code (3 : Nat) (Option.some Jvm.ClassFile.FieldType.int)) ∈ lw_all := lw_g (lw_at lw_m1 208 rfl) rfl
theorem q213 : (Jvm.Cond.methodLink "LongRowDesk" (45 : Nat) ({ cls := "Longs", name := "lastIndexOf", desc := "([JJ)I" } : Jvm.MethodName)) ∈ lw_all := lw_g (lw_at lw_m1 209 rfl) rfl
theorem q220 : (Jvm.Cond.instanceMethod ({ cls := "LongRowDesk", name := "has", desc := "(II)Z" } : Jvm.MethodName)) ∈ lw_all := lw_g (lw_at lw_m1 216 rfl) rfl
theorem q221 : (Jvm.Cond.selects "LongRowDesk" ({ cls := "LongRowDesk", name := "has", desc := "(II)Z" } : Jvm.MethodName) ({ cls := "LongRowDesk", name := "has", desc := "(II)Z" } : Jvm.MethodName)) ∈ lw_all := lw_g (lw_at lw_m1 217 rfl) rfl
theorem q222 : (Jvm.Cond.code ({ cls := "LongRowDesk", name := "has", desc := "(II)Z" } : Jvm.MethodName) prog_1_method_12_code (3 : Nat) (Option.some Jvm.ClassFile.FieldType.boolean)) ∈ lw_all := lw_g (lw_at lw_m1 218 rfl) rfl
theorem q223 : (Jvm.Cond.methodLink "LongRowDesk" (48 : Nat) ({ cls := "Longs", name := "contains", desc := "([JJ)Z" } : Jvm.MethodName)) ∈ lw_all := lw_g (lw_at lw_m1 219 rfl) rfl
theorem q227 : (Jvm.Cond.instanceMethod ({ cls := "LongRowDesk", name := "ofBytes", desc := "(II)J" } : Jvm.MethodName)) ∈ lw_all := lw_g (lw_at lw_m1 223 rfl) rfl
theorem q228 : (Jvm.Cond.selects "LongRowDesk" ({ cls := "LongRowDesk", name := "ofBytes", desc := "(II)J" } : Jvm.MethodName) ({ cls := "LongRowDesk", name := "ofBytes", desc := "(II)J" } : Jvm.MethodName)) ∈ lw_all := lw_g (lw_at lw_m1 224 rfl) rfl
theorem q229 : (Jvm.Cond.code ({ cls := "LongRowDesk", name := "ofBytes", desc := "(II)J" } : Jvm.MethodName) prog_1_method_13_code (3 : Nat) (Option.some Jvm.ClassFile.FieldType.long)) ∈ lw_all := lw_g (lw_at lw_m1 225 rfl) rfl
theorem q230 : (Jvm.Cond.methodLink "LongRowDesk" (52 : Nat) ({ cls := "Longs", name := "fromBytes", desc := "(BBBBBBBB)J" } : Jvm.MethodName)) ∈ lw_all := lw_g (lw_at lw_m1 226 rfl) rfl
theorem q235 : (Jvm.Cond.instanceMethod ({ cls := "LongRowDesk", name := "letter", desc := "(II)I" } : Jvm.MethodName)) ∈ lw_all := lw_g (lw_at lw_m1 231 rfl) rfl
theorem q236 : (Jvm.Cond.selects "LongRowDesk" ({ cls := "LongRowDesk", name := "letter", desc := "(II)I" } : Jvm.MethodName) ({ cls := "LongRowDesk", name := "letter", desc := "(II)I" } : Jvm.MethodName)) ∈ lw_all := lw_g (lw_at lw_m1 232 rfl) rfl
theorem q237 : (Jvm.Cond.code ({ cls := "LongRowDesk", name := "letter", desc := "(II)I" } : Jvm.MethodName) prog_1_method_14_code (3 : Nat) (Option.some Jvm.ClassFile.FieldType.int)) ∈ lw_all := lw_g (lw_at lw_m1 233 rfl) rfl
theorem q238 : (Jvm.Cond.methodLink "LongRowDesk" (56 : Nat) ({ cls := "Longs", name := "toByteArray", desc := "(J)[B" } : Jvm.MethodName)) ∈ lw_all := lw_g (lw_at lw_m1 234 rfl) rfl
theorem q242 : (Jvm.Cond.instanceMethod ({ cls := "LongRowDesk", name := "within", desc := "(III)J" } : Jvm.MethodName)) ∈ lw_all := lw_g (lw_at lw_m1 238 rfl) rfl
theorem q243 : (Jvm.Cond.selects "LongRowDesk" ({ cls := "LongRowDesk", name := "within", desc := "(III)J" } : Jvm.MethodName) ({ cls := "LongRowDesk", name := "within", desc := "(III)J" } : Jvm.MethodName)) ∈ lw_all := lw_g (lw_at lw_m1 239 rfl) rfl
theorem q244 : (Jvm.Cond.code ({ cls := "LongRowDesk", name := "within", desc := "(III)J" } : Jvm.MethodName) prog_1_method_15_code (8 : Nat) (Option.some Jvm.ClassFile.FieldType.long)) ∈ lw_all := lw_g (lw_at lw_m2 0 rfl) rfl
theorem q245 : (Jvm.Cond.methodLink "LongRowDesk" (60 : Nat) ({ cls := "Longs", name := "constrainToRange", desc := "(JJJ)J" } : Jvm.MethodName)) ∈ lw_all := lw_g (lw_at lw_m2 1 rfl) rfl
theorem in_X0 : ∀ w ∈ wsX00, w ∈ lw_all := lw_in wsX00 [25] (by decide +kernel) (by decide +kernel)
end
section
/-! names of LongRowDeskModel (X1) -/
set_option maxRecDepth 100000
def RX1 : String := "LongRowDeskModel"
def TX1 : u_T := fun k => match k with
  | _ => ("LongRowDeskModel", "row", "[J", true)
def tyX1 : Nat → FieldType := fun k => match k with
  | _ => .array .long
abbrev wsX10 : List Cond := u_ws RX1 TX1 1
theorem nmX1 : ∀ a, a < 1 → ∀ b, b < 1 → a ≠ b → (TX1 a).2.1 ≠ (TX1 b).2.1 := by decide +kernel
theorem tyX1_ok : ∀ k, k < 1 → parseFieldDescriptor (TX1 k).2.2.1 = some (tyX1 k) := by decide +kernel
abbrev cX1_init : ByteArray := prog_3_method_1_code
def yX1_init : MethodName := ⟨RX1, "<init>", "()V"⟩
theorem dX1_init_0 : decode cX1_init 0 = .ok (.aload_n 0, 1) := by decide +kernel
theorem dX1_init_1 : decode cX1_init 1 = .ok (.invokespecial 1, 3) := by decide +kernel
theorem dX1_init_4 : decode cX1_init 4 = .ok (.aload_n 0, 1) := by decide +kernel
theorem dX1_init_5 : decode cX1_init 5 = .ok (.bipush 12, 2) := by decide +kernel
theorem dX1_init_7 : decode cX1_init 7 = .ok (.newarray .long, 2) := by decide +kernel
theorem dX1_init_9 : decode cX1_init 9 = .ok (.putfield 9, 3) := by decide +kernel
theorem dX1_init_12 : decode cX1_init 12 = .ok (.return_, 1) := by decide +kernel
abbrev cX1_set : ByteArray := prog_3_method_4_code
def yX1_set : MethodName := ⟨RX1, "set", "(III)V"⟩
theorem dX1_set_0 : decode cX1_set 0 = .ok (.aload_n 0, 1) := by decide +kernel
theorem dX1_set_1 : decode cX1_set 1 = .ok (.getfield 9, 3) := by decide +kernel
theorem dX1_set_4 : decode cX1_set 4 = .ok (.iload_n 1, 1) := by decide +kernel
theorem dX1_set_5 : decode cX1_set 5 = .ok (.invokestatic 16, 3) := by decide +kernel
theorem dX1_set_8 : decode cX1_set 8 = .ok (.iload_n 2, 1) := by decide +kernel
theorem dX1_set_9 : decode cX1_set 9 = .ok (.iload_n 3, 1) := by decide +kernel
theorem dX1_set_10 : decode cX1_set 10 = .ok (.invokestatic 20, 3) := by decide +kernel
theorem dX1_set_13 : decode cX1_set 13 = .ok (.lastore, 1) := by decide +kernel
theorem dX1_set_14 : decode cX1_set 14 = .ok (.return_, 1) := by decide +kernel
abbrev cX1_place : ByteArray := prog_3_method_2_code
def yX1_place : MethodName := ⟨RX1, "place", "(I)I"⟩
theorem dX1_place_0 : decode cX1_place 0 = .ok (.iload_n 0, 1) := by decide +kernel
theorem dX1_place_1 : decode cX1_place 1 = .ok (.ldc 13, 2) := by decide +kernel
theorem dX1_place_3 : decode cX1_place 3 = .ok (.iand, 1) := by decide +kernel
theorem dX1_place_4 : decode cX1_place 4 = .ok (.bipush 12, 2) := by decide +kernel
theorem dX1_place_6 : decode cX1_place 6 = .ok (.irem, 1) := by decide +kernel
theorem dX1_place_7 : decode cX1_place 7 = .ok (.ireturn, 1) := by decide +kernel
abbrev cX1_wide : ByteArray := prog_3_method_3_code
def yX1_wide : MethodName := ⟨RX1, "wide", "(II)J"⟩
theorem dX1_wide_0 : decode cX1_wide 0 = .ok (.iload_n 0, 1) := by decide +kernel
theorem dX1_wide_1 : decode cX1_wide 1 = .ok (.i2l, 1) := by decide +kernel
theorem dX1_wide_2 : decode cX1_wide 2 = .ok (.lstore_n 2, 1) := by decide +kernel
theorem dX1_wide_3 : decode cX1_wide 3 = .ok (.bipush 31, 2) := by decide +kernel
theorem dX1_wide_5 : decode cX1_wide 5 = .ok (.istore 4, 2) := by decide +kernel
theorem dX1_wide_7 : decode cX1_wide 7 = .ok (.iload 4, 2) := by decide +kernel
theorem dX1_wide_9 : decode cX1_wide 9 = .ok (.ifCond .lt 23, 3) := by decide +kernel
theorem dX1_wide_12 : decode cX1_wide 12 = .ok (.ldc2_w 14, 3) := by decide +kernel
theorem dX1_wide_15 : decode cX1_wide 15 = .ok (.lload_n 2, 1) := by decide +kernel
theorem dX1_wide_16 : decode cX1_wide 16 = .ok (.lmul, 1) := by decide +kernel
theorem dX1_wide_17 : decode cX1_wide 17 = .ok (.iload_n 1, 1) := by decide +kernel
theorem dX1_wide_18 : decode cX1_wide 18 = .ok (.iload 4, 2) := by decide +kernel
theorem dX1_wide_20 : decode cX1_wide 20 = .ok (.ishr, 1) := by decide +kernel
theorem dX1_wide_21 : decode cX1_wide 21 = .ok (.iconst 1, 1) := by decide +kernel
theorem dX1_wide_22 : decode cX1_wide 22 = .ok (.iand, 1) := by decide +kernel
theorem dX1_wide_23 : decode cX1_wide 23 = .ok (.i2l, 1) := by decide +kernel
theorem dX1_wide_24 : decode cX1_wide 24 = .ok (.ladd, 1) := by decide +kernel
theorem dX1_wide_25 : decode cX1_wide 25 = .ok (.lstore_n 2, 1) := by decide +kernel
theorem dX1_wide_26 : decode cX1_wide 26 = .ok (.iinc 4 (-1), 3) := by decide +kernel
theorem dX1_wide_29 : decode cX1_wide 29 = .ok (.goto (-22), 3) := by decide +kernel
theorem dX1_wide_32 : decode cX1_wide 32 = .ok (.lload_n 2, 1) := by decide +kernel
theorem dX1_wide_33 : decode cX1_wide 33 = .ok (.lreturn, 1) := by decide +kernel
abbrev cX1_get : ByteArray := prog_3_method_5_code
def yX1_get : MethodName := ⟨RX1, "get", "(I)J"⟩
theorem dX1_get_0 : decode cX1_get 0 = .ok (.aload_n 0, 1) := by decide +kernel
theorem dX1_get_1 : decode cX1_get 1 = .ok (.getfield 9, 3) := by decide +kernel
theorem dX1_get_4 : decode cX1_get 4 = .ok (.iload_n 1, 1) := by decide +kernel
theorem dX1_get_5 : decode cX1_get 5 = .ok (.invokestatic 16, 3) := by decide +kernel
theorem dX1_get_8 : decode cX1_get 8 = .ok (.laload, 1) := by decide +kernel
theorem dX1_get_9 : decode cX1_get 9 = .ok (.lreturn, 1) := by decide +kernel
abbrev cX1_reverse : ByteArray := prog_3_method_6_code
def yX1_reverse : MethodName := ⟨RX1, "reverse", "(II)V"⟩
theorem dX1_reverse_0 : decode cX1_reverse 0 = .ok (.iload_n 1, 1) := by decide +kernel
theorem dX1_reverse_1 : decode cX1_reverse 1 = .ok (.ldc 13, 2) := by decide +kernel
theorem dX1_reverse_3 : decode cX1_reverse 3 = .ok (.iand, 1) := by decide +kernel
theorem dX1_reverse_4 : decode cX1_reverse 4 = .ok (.bipush 13, 2) := by decide +kernel
theorem dX1_reverse_6 : decode cX1_reverse 6 = .ok (.irem, 1) := by decide +kernel
theorem dX1_reverse_7 : decode cX1_reverse 7 = .ok (.istore_n 3, 1) := by decide +kernel
theorem dX1_reverse_8 : decode cX1_reverse 8 = .ok (.iload_n 3, 1) := by decide +kernel
theorem dX1_reverse_9 : decode cX1_reverse 9 = .ok (.iload_n 2, 1) := by decide +kernel
theorem dX1_reverse_10 : decode cX1_reverse 10 = .ok (.ldc 13, 2) := by decide +kernel
theorem dX1_reverse_12 : decode cX1_reverse 12 = .ok (.iand, 1) := by decide +kernel
theorem dX1_reverse_13 : decode cX1_reverse 13 = .ok (.bipush 13, 2) := by decide +kernel
theorem dX1_reverse_15 : decode cX1_reverse 15 = .ok (.iload_n 3, 1) := by decide +kernel
theorem dX1_reverse_16 : decode cX1_reverse 16 = .ok (.isub, 1) := by decide +kernel
theorem dX1_reverse_17 : decode cX1_reverse 17 = .ok (.irem, 1) := by decide +kernel
theorem dX1_reverse_18 : decode cX1_reverse 18 = .ok (.iadd, 1) := by decide +kernel
theorem dX1_reverse_19 : decode cX1_reverse 19 = .ok (.istore 4, 2) := by decide +kernel
theorem dX1_reverse_21 : decode cX1_reverse 21 = .ok (.bipush 12, 2) := by decide +kernel
theorem dX1_reverse_23 : decode cX1_reverse 23 = .ok (.newarray .long, 2) := by decide +kernel
theorem dX1_reverse_25 : decode cX1_reverse 25 = .ok (.astore 5, 2) := by decide +kernel
theorem dX1_reverse_27 : decode cX1_reverse 27 = .ok (.iconst 0, 1) := by decide +kernel
theorem dX1_reverse_28 : decode cX1_reverse 28 = .ok (.istore 6, 2) := by decide +kernel
theorem dX1_reverse_30 : decode cX1_reverse 30 = .ok (.iload 6, 2) := by decide +kernel
theorem dX1_reverse_32 : decode cX1_reverse 32 = .ok (.bipush 12, 2) := by decide +kernel
theorem dX1_reverse_34 : decode cX1_reverse 34 = .ok (.if_icmp .ge 21, 3) := by decide +kernel
theorem dX1_reverse_37 : decode cX1_reverse 37 = .ok (.aload 5, 2) := by decide +kernel
theorem dX1_reverse_39 : decode cX1_reverse 39 = .ok (.iload 6, 2) := by decide +kernel
theorem dX1_reverse_41 : decode cX1_reverse 41 = .ok (.aload_n 0, 1) := by decide +kernel
theorem dX1_reverse_42 : decode cX1_reverse 42 = .ok (.getfield 9, 3) := by decide +kernel
theorem dX1_reverse_45 : decode cX1_reverse 45 = .ok (.iload 6, 2) := by decide +kernel
theorem dX1_reverse_47 : decode cX1_reverse 47 = .ok (.laload, 1) := by decide +kernel
theorem dX1_reverse_48 : decode cX1_reverse 48 = .ok (.lastore, 1) := by decide +kernel
theorem dX1_reverse_49 : decode cX1_reverse 49 = .ok (.iinc 6 1, 3) := by decide +kernel
theorem dX1_reverse_52 : decode cX1_reverse 52 = .ok (.goto (-22), 3) := by decide +kernel
theorem dX1_reverse_55 : decode cX1_reverse 55 = .ok (.iload_n 3, 1) := by decide +kernel
theorem dX1_reverse_56 : decode cX1_reverse 56 = .ok (.istore 6, 2) := by decide +kernel
theorem dX1_reverse_58 : decode cX1_reverse 58 = .ok (.iload 6, 2) := by decide +kernel
theorem dX1_reverse_60 : decode cX1_reverse 60 = .ok (.iload 4, 2) := by decide +kernel
theorem dX1_reverse_62 : decode cX1_reverse 62 = .ok (.if_icmp .ge 28, 3) := by decide +kernel
theorem dX1_reverse_65 : decode cX1_reverse 65 = .ok (.aload_n 0, 1) := by decide +kernel
theorem dX1_reverse_66 : decode cX1_reverse 66 = .ok (.getfield 9, 3) := by decide +kernel
theorem dX1_reverse_69 : decode cX1_reverse 69 = .ok (.iload 6, 2) := by decide +kernel
theorem dX1_reverse_71 : decode cX1_reverse 71 = .ok (.aload 5, 2) := by decide +kernel
theorem dX1_reverse_73 : decode cX1_reverse 73 = .ok (.iload_n 3, 1) := by decide +kernel
theorem dX1_reverse_74 : decode cX1_reverse 74 = .ok (.iload 4, 2) := by decide +kernel
theorem dX1_reverse_76 : decode cX1_reverse 76 = .ok (.iadd, 1) := by decide +kernel
theorem dX1_reverse_77 : decode cX1_reverse 77 = .ok (.iconst 1, 1) := by decide +kernel
theorem dX1_reverse_78 : decode cX1_reverse 78 = .ok (.isub, 1) := by decide +kernel
theorem dX1_reverse_79 : decode cX1_reverse 79 = .ok (.iload 6, 2) := by decide +kernel
theorem dX1_reverse_81 : decode cX1_reverse 81 = .ok (.isub, 1) := by decide +kernel
theorem dX1_reverse_82 : decode cX1_reverse 82 = .ok (.laload, 1) := by decide +kernel
theorem dX1_reverse_83 : decode cX1_reverse 83 = .ok (.lastore, 1) := by decide +kernel
theorem dX1_reverse_84 : decode cX1_reverse 84 = .ok (.iinc 6 1, 3) := by decide +kernel
theorem dX1_reverse_87 : decode cX1_reverse 87 = .ok (.goto (-29), 3) := by decide +kernel
theorem dX1_reverse_90 : decode cX1_reverse 90 = .ok (.return_, 1) := by decide +kernel
abbrev cX1_most : ByteArray := prog_3_method_7_code
def yX1_most : MethodName := ⟨RX1, "most", "()J"⟩
theorem dX1_most_0 : decode cX1_most 0 = .ok (.aload_n 0, 1) := by decide +kernel
theorem dX1_most_1 : decode cX1_most 1 = .ok (.getfield 9, 3) := by decide +kernel
theorem dX1_most_4 : decode cX1_most 4 = .ok (.iconst 0, 1) := by decide +kernel
theorem dX1_most_5 : decode cX1_most 5 = .ok (.laload, 1) := by decide +kernel
theorem dX1_most_6 : decode cX1_most 6 = .ok (.lstore_n 1, 1) := by decide +kernel
theorem dX1_most_7 : decode cX1_most 7 = .ok (.aload_n 0, 1) := by decide +kernel
theorem dX1_most_8 : decode cX1_most 8 = .ok (.getfield 9, 3) := by decide +kernel
theorem dX1_most_11 : decode cX1_most 11 = .ok (.astore_n 3, 1) := by decide +kernel
theorem dX1_most_12 : decode cX1_most 12 = .ok (.aload_n 3, 1) := by decide +kernel
theorem dX1_most_13 : decode cX1_most 13 = .ok (.arraylength, 1) := by decide +kernel
theorem dX1_most_14 : decode cX1_most 14 = .ok (.istore 4, 2) := by decide +kernel
theorem dX1_most_16 : decode cX1_most 16 = .ok (.iconst 0, 1) := by decide +kernel
theorem dX1_most_17 : decode cX1_most 17 = .ok (.istore 5, 2) := by decide +kernel
theorem dX1_most_19 : decode cX1_most 19 = .ok (.iload 5, 2) := by decide +kernel
theorem dX1_most_21 : decode cX1_most 21 = .ok (.iload 4, 2) := by decide +kernel
theorem dX1_most_23 : decode cX1_most 23 = .ok (.if_icmp .ge 29, 3) := by decide +kernel
theorem dX1_most_26 : decode cX1_most 26 = .ok (.aload_n 3, 1) := by decide +kernel
theorem dX1_most_27 : decode cX1_most 27 = .ok (.iload 5, 2) := by decide +kernel
theorem dX1_most_29 : decode cX1_most 29 = .ok (.laload, 1) := by decide +kernel
theorem dX1_most_30 : decode cX1_most 30 = .ok (.lstore 6, 2) := by decide +kernel
theorem dX1_most_32 : decode cX1_most 32 = .ok (.lload 6, 2) := by decide +kernel
theorem dX1_most_34 : decode cX1_most 34 = .ok (.lload_n 1, 1) := by decide +kernel
theorem dX1_most_35 : decode cX1_most 35 = .ok (.lcmp, 1) := by decide +kernel
theorem dX1_most_36 : decode cX1_most 36 = .ok (.ifCond .le 8, 3) := by decide +kernel
theorem dX1_most_39 : decode cX1_most 39 = .ok (.lload 6, 2) := by decide +kernel
theorem dX1_most_41 : decode cX1_most 41 = .ok (.goto 4, 3) := by decide +kernel
theorem dX1_most_44 : decode cX1_most 44 = .ok (.lload_n 1, 1) := by decide +kernel
theorem dX1_most_45 : decode cX1_most 45 = .ok (.lstore_n 1, 1) := by decide +kernel
theorem dX1_most_46 : decode cX1_most 46 = .ok (.iinc 5 1, 3) := by decide +kernel
theorem dX1_most_49 : decode cX1_most 49 = .ok (.goto (-30), 3) := by decide +kernel
theorem dX1_most_52 : decode cX1_most 52 = .ok (.lload_n 1, 1) := by decide +kernel
theorem dX1_most_53 : decode cX1_most 53 = .ok (.lreturn, 1) := by decide +kernel
abbrev cX1_least : ByteArray := prog_3_method_8_code
def yX1_least : MethodName := ⟨RX1, "least", "()J"⟩
theorem dX1_least_0 : decode cX1_least 0 = .ok (.aload_n 0, 1) := by decide +kernel
theorem dX1_least_1 : decode cX1_least 1 = .ok (.getfield 9, 3) := by decide +kernel
theorem dX1_least_4 : decode cX1_least 4 = .ok (.iconst 0, 1) := by decide +kernel
theorem dX1_least_5 : decode cX1_least 5 = .ok (.laload, 1) := by decide +kernel
theorem dX1_least_6 : decode cX1_least 6 = .ok (.lstore_n 1, 1) := by decide +kernel
theorem dX1_least_7 : decode cX1_least 7 = .ok (.aload_n 0, 1) := by decide +kernel
theorem dX1_least_8 : decode cX1_least 8 = .ok (.getfield 9, 3) := by decide +kernel
theorem dX1_least_11 : decode cX1_least 11 = .ok (.astore_n 3, 1) := by decide +kernel
theorem dX1_least_12 : decode cX1_least 12 = .ok (.aload_n 3, 1) := by decide +kernel
theorem dX1_least_13 : decode cX1_least 13 = .ok (.arraylength, 1) := by decide +kernel
theorem dX1_least_14 : decode cX1_least 14 = .ok (.istore 4, 2) := by decide +kernel
theorem dX1_least_16 : decode cX1_least 16 = .ok (.iconst 0, 1) := by decide +kernel
theorem dX1_least_17 : decode cX1_least 17 = .ok (.istore 5, 2) := by decide +kernel
theorem dX1_least_19 : decode cX1_least 19 = .ok (.iload 5, 2) := by decide +kernel
theorem dX1_least_21 : decode cX1_least 21 = .ok (.iload 4, 2) := by decide +kernel
theorem dX1_least_23 : decode cX1_least 23 = .ok (.if_icmp .ge 29, 3) := by decide +kernel
theorem dX1_least_26 : decode cX1_least 26 = .ok (.aload_n 3, 1) := by decide +kernel
theorem dX1_least_27 : decode cX1_least 27 = .ok (.iload 5, 2) := by decide +kernel
theorem dX1_least_29 : decode cX1_least 29 = .ok (.laload, 1) := by decide +kernel
theorem dX1_least_30 : decode cX1_least 30 = .ok (.lstore 6, 2) := by decide +kernel
theorem dX1_least_32 : decode cX1_least 32 = .ok (.lload 6, 2) := by decide +kernel
theorem dX1_least_34 : decode cX1_least 34 = .ok (.lload_n 1, 1) := by decide +kernel
theorem dX1_least_35 : decode cX1_least 35 = .ok (.lcmp, 1) := by decide +kernel
theorem dX1_least_36 : decode cX1_least 36 = .ok (.ifCond .ge 8, 3) := by decide +kernel
theorem dX1_least_39 : decode cX1_least 39 = .ok (.lload 6, 2) := by decide +kernel
theorem dX1_least_41 : decode cX1_least 41 = .ok (.goto 4, 3) := by decide +kernel
theorem dX1_least_44 : decode cX1_least 44 = .ok (.lload_n 1, 1) := by decide +kernel
theorem dX1_least_45 : decode cX1_least 45 = .ok (.lstore_n 1, 1) := by decide +kernel
theorem dX1_least_46 : decode cX1_least 46 = .ok (.iinc 5 1, 3) := by decide +kernel
theorem dX1_least_49 : decode cX1_least 49 = .ok (.goto (-30), 3) := by decide +kernel
theorem dX1_least_52 : decode cX1_least 52 = .ok (.lload_n 1, 1) := by decide +kernel
theorem dX1_least_53 : decode cX1_least 53 = .ok (.lreturn, 1) := by decide +kernel
abbrev cX1_find : ByteArray := prog_3_method_9_code
def yX1_find : MethodName := ⟨RX1, "find", "(II)I"⟩
theorem dX1_find_0 : decode cX1_find 0 = .ok (.iload_n 1, 1) := by decide +kernel
theorem dX1_find_1 : decode cX1_find 1 = .ok (.iload_n 2, 1) := by decide +kernel
theorem dX1_find_2 : decode cX1_find 2 = .ok (.invokestatic 20, 3) := by decide +kernel
theorem dX1_find_5 : decode cX1_find 5 = .ok (.lstore_n 3, 1) := by decide +kernel
theorem dX1_find_6 : decode cX1_find 6 = .ok (.iconst (-1), 1) := by decide +kernel
theorem dX1_find_7 : decode cX1_find 7 = .ok (.istore 5, 2) := by decide +kernel
theorem dX1_find_9 : decode cX1_find 9 = .ok (.bipush 11, 2) := by decide +kernel
theorem dX1_find_11 : decode cX1_find 11 = .ok (.istore 6, 2) := by decide +kernel
theorem dX1_find_13 : decode cX1_find 13 = .ok (.iload 6, 2) := by decide +kernel
theorem dX1_find_15 : decode cX1_find 15 = .ok (.ifCond .lt 30, 3) := by decide +kernel
theorem dX1_find_18 : decode cX1_find 18 = .ok (.aload_n 0, 1) := by decide +kernel
theorem dX1_find_19 : decode cX1_find 19 = .ok (.getfield 9, 3) := by decide +kernel
theorem dX1_find_22 : decode cX1_find 22 = .ok (.iload 6, 2) := by decide +kernel
theorem dX1_find_24 : decode cX1_find 24 = .ok (.laload, 1) := by decide +kernel
theorem dX1_find_25 : decode cX1_find 25 = .ok (.lload_n 3, 1) := by decide +kernel
theorem dX1_find_26 : decode cX1_find 26 = .ok (.lcmp, 1) := by decide +kernel
theorem dX1_find_27 : decode cX1_find 27 = .ok (.ifCond .ne 8, 3) := by decide +kernel
theorem dX1_find_30 : decode cX1_find 30 = .ok (.iload 6, 2) := by decide +kernel
theorem dX1_find_32 : decode cX1_find 32 = .ok (.goto 5, 3) := by decide +kernel
theorem dX1_find_35 : decode cX1_find 35 = .ok (.iload 5, 2) := by decide +kernel
theorem dX1_find_37 : decode cX1_find 37 = .ok (.istore 5, 2) := by decide +kernel
theorem dX1_find_39 : decode cX1_find 39 = .ok (.iinc 6 (-1), 3) := by decide +kernel
theorem dX1_find_42 : decode cX1_find 42 = .ok (.goto (-29), 3) := by decide +kernel
theorem dX1_find_45 : decode cX1_find 45 = .ok (.iload 5, 2) := by decide +kernel
theorem dX1_find_47 : decode cX1_find 47 = .ok (.ireturn, 1) := by decide +kernel
abbrev cX1_findLast : ByteArray := prog_3_method_10_code
def yX1_findLast : MethodName := ⟨RX1, "findLast", "(II)I"⟩
theorem dX1_findLast_0 : decode cX1_findLast 0 = .ok (.iload_n 1, 1) := by decide +kernel
theorem dX1_findLast_1 : decode cX1_findLast 1 = .ok (.iload_n 2, 1) := by decide +kernel
theorem dX1_findLast_2 : decode cX1_findLast 2 = .ok (.invokestatic 20, 3) := by decide +kernel
theorem dX1_findLast_5 : decode cX1_findLast 5 = .ok (.lstore_n 3, 1) := by decide +kernel
theorem dX1_findLast_6 : decode cX1_findLast 6 = .ok (.iconst (-1), 1) := by decide +kernel
theorem dX1_findLast_7 : decode cX1_findLast 7 = .ok (.istore 5, 2) := by decide +kernel
theorem dX1_findLast_9 : decode cX1_findLast 9 = .ok (.iconst 0, 1) := by decide +kernel
theorem dX1_findLast_10 : decode cX1_findLast 10 = .ok (.istore 6, 2) := by decide +kernel
theorem dX1_findLast_12 : decode cX1_findLast 12 = .ok (.iload 6, 2) := by decide +kernel
theorem dX1_findLast_14 : decode cX1_findLast 14 = .ok (.bipush 12, 2) := by decide +kernel
theorem dX1_findLast_16 : decode cX1_findLast 16 = .ok (.if_icmp .ge 30, 3) := by decide +kernel
theorem dX1_findLast_19 : decode cX1_findLast 19 = .ok (.aload_n 0, 1) := by decide +kernel
theorem dX1_findLast_20 : decode cX1_findLast 20 = .ok (.getfield 9, 3) := by decide +kernel
theorem dX1_findLast_23 : decode cX1_findLast 23 = .ok (.iload 6, 2) := by decide +kernel
theorem dX1_findLast_25 : decode cX1_findLast 25 = .ok (.laload, 1) := by decide +kernel
theorem dX1_findLast_26 : decode cX1_findLast 26 = .ok (.lload_n 3, 1) := by decide +kernel
theorem dX1_findLast_27 : decode cX1_findLast 27 = .ok (.lcmp, 1) := by decide +kernel
theorem dX1_findLast_28 : decode cX1_findLast 28 = .ok (.ifCond .ne 8, 3) := by decide +kernel
theorem dX1_findLast_31 : decode cX1_findLast 31 = .ok (.iload 6, 2) := by decide +kernel
theorem dX1_findLast_33 : decode cX1_findLast 33 = .ok (.goto 5, 3) := by decide +kernel
theorem dX1_findLast_36 : decode cX1_findLast 36 = .ok (.iload 5, 2) := by decide +kernel
theorem dX1_findLast_38 : decode cX1_findLast 38 = .ok (.istore 5, 2) := by decide +kernel
theorem dX1_findLast_40 : decode cX1_findLast 40 = .ok (.iinc 6 1, 3) := by decide +kernel
theorem dX1_findLast_43 : decode cX1_findLast 43 = .ok (.goto (-31), 3) := by decide +kernel
theorem dX1_findLast_46 : decode cX1_findLast 46 = .ok (.iload 5, 2) := by decide +kernel
theorem dX1_findLast_48 : decode cX1_findLast 48 = .ok (.ireturn, 1) := by decide +kernel
abbrev cX1_has : ByteArray := prog_3_method_11_code
def yX1_has : MethodName := ⟨RX1, "has", "(II)Z"⟩
theorem dX1_has_0 : decode cX1_has 0 = .ok (.aload_n 0, 1) := by decide +kernel
theorem dX1_has_1 : decode cX1_has 1 = .ok (.iload_n 1, 1) := by decide +kernel
theorem dX1_has_2 : decode cX1_has 2 = .ok (.iload_n 2, 1) := by decide +kernel
theorem dX1_has_3 : decode cX1_has 3 = .ok (.invokevirtual 24, 3) := by decide +kernel
theorem dX1_has_6 : decode cX1_has 6 = .ok (.ifCond .lt 7, 3) := by decide +kernel
theorem dX1_has_9 : decode cX1_has 9 = .ok (.iconst 1, 1) := by decide +kernel
theorem dX1_has_10 : decode cX1_has 10 = .ok (.goto 4, 3) := by decide +kernel
theorem dX1_has_13 : decode cX1_has 13 = .ok (.iconst 0, 1) := by decide +kernel
theorem dX1_has_14 : decode cX1_has 14 = .ok (.ireturn, 1) := by decide +kernel
abbrev cX1_ofBytes : ByteArray := prog_3_method_12_code
def yX1_ofBytes : MethodName := ⟨RX1, "ofBytes", "(II)J"⟩
theorem dX1_ofBytes_0 : decode cX1_ofBytes 0 = .ok (.lconst 0, 1) := by decide +kernel
theorem dX1_ofBytes_1 : decode cX1_ofBytes 1 = .ok (.lstore_n 3, 1) := by decide +kernel
theorem dX1_ofBytes_2 : decode cX1_ofBytes 2 = .ok (.iconst 0, 1) := by decide +kernel
theorem dX1_ofBytes_3 : decode cX1_ofBytes 3 = .ok (.istore 5, 2) := by decide +kernel
theorem dX1_ofBytes_5 : decode cX1_ofBytes 5 = .ok (.iload 5, 2) := by decide +kernel
theorem dX1_ofBytes_7 : decode cX1_ofBytes 7 = .ok (.bipush 8, 2) := by decide +kernel
theorem dX1_ofBytes_9 : decode cX1_ofBytes 9 = .ok (.if_icmp .ge 47, 3) := by decide +kernel
theorem dX1_ofBytes_12 : decode cX1_ofBytes 12 = .ok (.iload 5, 2) := by decide +kernel
theorem dX1_ofBytes_14 : decode cX1_ofBytes 14 = .ok (.iconst 4, 1) := by decide +kernel
theorem dX1_ofBytes_15 : decode cX1_ofBytes 15 = .ok (.if_icmp .ge 7, 3) := by decide +kernel
theorem dX1_ofBytes_18 : decode cX1_ofBytes 18 = .ok (.iload_n 1, 1) := by decide +kernel
theorem dX1_ofBytes_19 : decode cX1_ofBytes 19 = .ok (.goto 4, 3) := by decide +kernel
theorem dX1_ofBytes_22 : decode cX1_ofBytes 22 = .ok (.iload_n 2, 1) := by decide +kernel
theorem dX1_ofBytes_23 : decode cX1_ofBytes 23 = .ok (.istore 6, 2) := by decide +kernel
theorem dX1_ofBytes_25 : decode cX1_ofBytes 25 = .ok (.ldc2_w 28, 3) := by decide +kernel
theorem dX1_ofBytes_28 : decode cX1_ofBytes 28 = .ok (.lload_n 3, 1) := by decide +kernel
theorem dX1_ofBytes_29 : decode cX1_ofBytes 29 = .ok (.lmul, 1) := by decide +kernel
theorem dX1_ofBytes_30 : decode cX1_ofBytes 30 = .ok (.iload 6, 2) := by decide +kernel
theorem dX1_ofBytes_32 : decode cX1_ofBytes 32 = .ok (.bipush 24, 2) := by decide +kernel
theorem dX1_ofBytes_34 : decode cX1_ofBytes 34 = .ok (.bipush 8, 2) := by decide +kernel
theorem dX1_ofBytes_36 : decode cX1_ofBytes 36 = .ok (.iload 5, 2) := by decide +kernel
theorem dX1_ofBytes_38 : decode cX1_ofBytes 38 = .ok (.iconst 4, 1) := by decide +kernel
theorem dX1_ofBytes_39 : decode cX1_ofBytes 39 = .ok (.irem, 1) := by decide +kernel
theorem dX1_ofBytes_40 : decode cX1_ofBytes 40 = .ok (.imul, 1) := by decide +kernel
theorem dX1_ofBytes_41 : decode cX1_ofBytes 41 = .ok (.isub, 1) := by decide +kernel
theorem dX1_ofBytes_42 : decode cX1_ofBytes 42 = .ok (.ishr, 1) := by decide +kernel
theorem dX1_ofBytes_43 : decode cX1_ofBytes 43 = .ok (.sipush 255, 3) := by decide +kernel
theorem dX1_ofBytes_46 : decode cX1_ofBytes 46 = .ok (.iand, 1) := by decide +kernel
theorem dX1_ofBytes_47 : decode cX1_ofBytes 47 = .ok (.i2l, 1) := by decide +kernel
theorem dX1_ofBytes_48 : decode cX1_ofBytes 48 = .ok (.ladd, 1) := by decide +kernel
theorem dX1_ofBytes_49 : decode cX1_ofBytes 49 = .ok (.lstore_n 3, 1) := by decide +kernel
theorem dX1_ofBytes_50 : decode cX1_ofBytes 50 = .ok (.iinc 5 1, 3) := by decide +kernel
theorem dX1_ofBytes_53 : decode cX1_ofBytes 53 = .ok (.goto (-48), 3) := by decide +kernel
theorem dX1_ofBytes_56 : decode cX1_ofBytes 56 = .ok (.lload_n 3, 1) := by decide +kernel
theorem dX1_ofBytes_57 : decode cX1_ofBytes 57 = .ok (.lreturn, 1) := by decide +kernel
abbrev cX1_letter : ByteArray := prog_3_method_13_code
def yX1_letter : MethodName := ⟨RX1, "letter", "(II)I"⟩
theorem dX1_letter_0 : decode cX1_letter 0 = .ok (.aload_n 0, 1) := by decide +kernel
theorem dX1_letter_1 : decode cX1_letter 1 = .ok (.iload_n 1, 1) := by decide +kernel
theorem dX1_letter_2 : decode cX1_letter 2 = .ok (.invokevirtual 30, 3) := by decide +kernel
theorem dX1_letter_5 : decode cX1_letter 5 = .ok (.bipush 56, 2) := by decide +kernel
theorem dX1_letter_7 : decode cX1_letter 7 = .ok (.bipush 8, 2) := by decide +kernel
theorem dX1_letter_9 : decode cX1_letter 9 = .ok (.iload_n 2, 1) := by decide +kernel
theorem dX1_letter_10 : decode cX1_letter 10 = .ok (.bipush 7, 2) := by decide +kernel
theorem dX1_letter_12 : decode cX1_letter 12 = .ok (.iand, 1) := by decide +kernel
theorem dX1_letter_13 : decode cX1_letter 13 = .ok (.imul, 1) := by decide +kernel
theorem dX1_letter_14 : decode cX1_letter 14 = .ok (.isub, 1) := by decide +kernel
theorem dX1_letter_15 : decode cX1_letter 15 = .ok (.lshr, 1) := by decide +kernel
theorem dX1_letter_16 : decode cX1_letter 16 = .ok (.ldc2_w 34, 3) := by decide +kernel
theorem dX1_letter_19 : decode cX1_letter 19 = .ok (.land, 1) := by decide +kernel
theorem dX1_letter_20 : decode cX1_letter 20 = .ok (.l2i, 1) := by decide +kernel
theorem dX1_letter_21 : decode cX1_letter 21 = .ok (.ireturn, 1) := by decide +kernel
abbrev cX1_within : ByteArray := prog_3_method_14_code
def yX1_within : MethodName := ⟨RX1, "within", "(III)J"⟩
theorem dX1_within_0 : decode cX1_within 0 = .ok (.aload_n 0, 1) := by decide +kernel
theorem dX1_within_1 : decode cX1_within 1 = .ok (.iload_n 1, 1) := by decide +kernel
theorem dX1_within_2 : decode cX1_within 2 = .ok (.invokevirtual 30, 3) := by decide +kernel
theorem dX1_within_5 : decode cX1_within 5 = .ok (.lstore 4, 2) := by decide +kernel
theorem dX1_within_7 : decode cX1_within 7 = .ok (.aload_n 0, 1) := by decide +kernel
theorem dX1_within_8 : decode cX1_within 8 = .ok (.iload_n 2, 1) := by decide +kernel
theorem dX1_within_9 : decode cX1_within 9 = .ok (.invokevirtual 30, 3) := by decide +kernel
theorem dX1_within_12 : decode cX1_within 12 = .ok (.aload_n 0, 1) := by decide +kernel
theorem dX1_within_13 : decode cX1_within 13 = .ok (.iload_n 3, 1) := by decide +kernel
theorem dX1_within_14 : decode cX1_within 14 = .ok (.invokevirtual 30, 3) := by decide +kernel
theorem dX1_within_17 : decode cX1_within 17 = .ok (.invokestatic 36, 3) := by decide +kernel
theorem dX1_within_20 : decode cX1_within 20 = .ok (.lstore 6, 2) := by decide +kernel
theorem dX1_within_22 : decode cX1_within 22 = .ok (.aload_n 0, 1) := by decide +kernel
theorem dX1_within_23 : decode cX1_within 23 = .ok (.iload_n 2, 1) := by decide +kernel
theorem dX1_within_24 : decode cX1_within 24 = .ok (.invokevirtual 30, 3) := by decide +kernel
theorem dX1_within_27 : decode cX1_within 27 = .ok (.aload_n 0, 1) := by decide +kernel
theorem dX1_within_28 : decode cX1_within 28 = .ok (.iload_n 3, 1) := by decide +kernel
theorem dX1_within_29 : decode cX1_within 29 = .ok (.invokevirtual 30, 3) := by decide +kernel
theorem dX1_within_32 : decode cX1_within 32 = .ok (.invokestatic 42, 3) := by decide +kernel
theorem dX1_within_35 : decode cX1_within 35 = .ok (.lstore 8, 2) := by decide +kernel
theorem dX1_within_37 : decode cX1_within 37 = .ok (.lload 4, 2) := by decide +kernel
theorem dX1_within_39 : decode cX1_within 39 = .ok (.lload 6, 2) := by decide +kernel
theorem dX1_within_41 : decode cX1_within 41 = .ok (.lcmp, 1) := by decide +kernel
theorem dX1_within_42 : decode cX1_within 42 = .ok (.ifCond .ge 8, 3) := by decide +kernel
theorem dX1_within_45 : decode cX1_within 45 = .ok (.lload 6, 2) := by decide +kernel
theorem dX1_within_47 : decode cX1_within 47 = .ok (.goto 18, 3) := by decide +kernel
theorem dX1_within_50 : decode cX1_within 50 = .ok (.lload 4, 2) := by decide +kernel
theorem dX1_within_52 : decode cX1_within 52 = .ok (.lload 8, 2) := by decide +kernel
theorem dX1_within_54 : decode cX1_within 54 = .ok (.lcmp, 1) := by decide +kernel
theorem dX1_within_55 : decode cX1_within 55 = .ok (.ifCond .le 8, 3) := by decide +kernel
theorem dX1_within_58 : decode cX1_within 58 = .ok (.lload 8, 2) := by decide +kernel
theorem dX1_within_60 : decode cX1_within 60 = .ok (.goto 5, 3) := by decide +kernel
theorem dX1_within_63 : decode cX1_within 63 = .ok (.lload 4, 2) := by decide +kernel
theorem dX1_within_65 : decode cX1_within 65 = .ok (.lreturn, 1) := by decide +kernel
theorem q6 : (Jvm.Cond.initialized "LongRowDeskModel") ∈ lw_all := lw_g (lw_at lw_m1 2 rfl) rfl
theorem q263 : (Jvm.Cond.instantiable "LongRowDeskModel" (1 : Nat)) ∈ lw_all := lw_g (lw_at lw_m2 19 rfl) rfl
theorem q265 : (Jvm.Cond.instanceMethod ({ cls := "LongRowDeskModel", name := "<init>", desc := "()V" } : Jvm.MethodName)) ∈ lw_all := lw_g (lw_at lw_m2 21 rfl) rfl
theorem q266 : (Jvm.Cond.code ({ cls := "LongRowDeskModel", name := "<init>", desc := "()V" } : Jvm.MethodName) prog_3_method_1_code (1 : Nat) (Option.none : Option Jvm.ClassFile.FieldType)) ∈ lw_all := lw_g (lw_at lw_m2 22 rfl) rfl
theorem q267 : (Jvm.Cond.methodLink "LongRowDeskModel" (1 : Nat) ({ cls := "java/lang/Object", name := "<init>", desc := "()V" } : Jvm.MethodName)) ∈ lw_all := lw_g (lw_at lw_m2 23 rfl) rfl
theorem q268 : (Jvm.Cond.fieldLink "LongRowDeskModel" (9 : Nat) "LongRowDeskModel" "row" "[J") ∈ lw_all := lw_g (lw_at lw_m2 24 rfl) rfl
theorem q269 : (Jvm.Cond.laysFinal "LongRowDeskModel" "LongRowDeskModel" "row" "[J") ∈ lw_all := lw_g (lw_at lw_m2 25 rfl) rfl
theorem q270 : (Jvm.Cond.soleField "LongRowDeskModel" "row") ∈ lw_all := lw_g (lw_at lw_m2 26 rfl) rfl
theorem q271 : (Jvm.Cond.superclass "LongRowDeskModel" "java/lang/Object") ∈ lw_all := lw_g (lw_at lw_m2 27 rfl) rfl
theorem q273 : (Jvm.Cond.instanceMethod ({ cls := "LongRowDeskModel", name := "set", desc := "(III)V" } : Jvm.MethodName)) ∈ lw_all := lw_g (lw_at lw_m2 29 rfl) rfl
theorem q274 : (Jvm.Cond.selects "LongRowDeskModel" ({ cls := "LongRowDeskModel", name := "set", desc := "(III)V" } : Jvm.MethodName) ({ cls := "LongRowDeskModel", name := "set", desc := "(III)V" } : Jvm.MethodName)) ∈ lw_all := lw_g (lw_at lw_m2 30 rfl) rfl
theorem q275 : (Jvm.Cond.code ({ cls := "LongRowDeskModel", name := "set", desc := "(III)V" } : Jvm.MethodName) prog_3_method_4_code (4 : Nat) (Option.none : Option Jvm.ClassFile.FieldType)) ∈ lw_all := lw_g (lw_at lw_m2 31 rfl) rfl
theorem q276 : (Jvm.Cond.methodLink "LongRowDeskModel" (16 : Nat) ({ cls := "LongRowDeskModel", name := "place", desc := "(I)I" } : Jvm.MethodName)) ∈ lw_all := lw_g (lw_at lw_m2 32 rfl) rfl
theorem q277 : (Jvm.Cond.static ({ cls := "LongRowDeskModel", name := "place", desc := "(I)I" } : Jvm.MethodName)) ∈ lw_all := lw_g (lw_at lw_m2 33 rfl) rfl
theorem q278 : (Jvm.Cond.code ({ cls := "LongRowDeskModel", name := "place", desc := "(I)I" } : Jvm.MethodName) prog_3_method_2_code (1 : Nat) (Option.some Jvm.ClassFile.FieldType.int)) ∈ lw_all := lw_g (lw_at lw_m2 34 rfl) rfl
theorem q279 : (Jvm.Cond.constant "LongRowDeskModel" (13 : Nat) (2147483647 : Int32)) ∈ lw_all := lw_g (lw_at lw_m2 35 rfl) rfl
theorem q280 : (Jvm.Cond.methodLink "LongRowDeskModel" (20 : Nat) ({ cls := "LongRowDeskModel", name := "wide", desc := "(II)J" } : Jvm.MethodName)) ∈ lw_all := lw_g (lw_at lw_m2 36 rfl) rfl
theorem q281 : (Jvm.Cond.static ({ cls := "LongRowDeskModel", name := "wide", desc := "(II)J" } : Jvm.MethodName)) ∈ lw_all := lw_g (lw_at lw_m2 37 rfl) rfl
theorem q282 : (Jvm.Cond.code ({ cls := "LongRowDeskModel", name := "wide", desc := "(II)J" } : Jvm.MethodName) prog_3_method_3_code (5 : Nat) (Option.some Jvm.ClassFile.FieldType.long)) ∈ lw_all := lw_g (lw_at lw_m2 38 rfl) rfl
theorem q283 : (Jvm.Cond.constantLong "LongRowDeskModel" (14 : Nat) (2 : Int64)) ∈ lw_all := lw_g (lw_at lw_m2 39 rfl) rfl
theorem q285 : (Jvm.Cond.instanceMethod ({ cls := "LongRowDeskModel", name := "get", desc := "(I)J" } : Jvm.MethodName)) ∈ lw_all := lw_g (lw_at lw_m2 41 rfl) rfl
theorem q286 : (Jvm.Cond.selects "LongRowDeskModel" ({ cls := "LongRowDeskModel", name := "get", desc := "(I)J" } : Jvm.MethodName) ({ cls := "LongRowDeskModel", name := "get", desc := "(I)J" } : Jvm.MethodName)) ∈ lw_all := lw_g (lw_at lw_m2 42 rfl) rfl
theorem q287 : (Jvm.Cond.code ({ cls := "LongRowDeskModel", name := "get", desc := "(I)J" } : Jvm.MethodName) prog_3_method_5_code (2 : Nat) (Option.some Jvm.ClassFile.FieldType.long)) ∈ lw_all := lw_g (lw_at lw_m2 43 rfl) rfl
theorem q289 : (Jvm.Cond.instanceMethod ({ cls := "LongRowDeskModel", name := "reverse", desc := "(II)V" } : Jvm.MethodName)) ∈ lw_all := lw_g (lw_at lw_m2 45 rfl) rfl
theorem q290 : (Jvm.Cond.selects "LongRowDeskModel" ({ cls := "LongRowDeskModel", name := "reverse", desc := "(II)V" } : Jvm.MethodName) ({ cls := "LongRowDeskModel", name := "reverse", desc := "(II)V" } : Jvm.MethodName)) ∈ lw_all := lw_g (lw_at lw_m2 46 rfl) rfl
theorem q291 : (Jvm.Cond.code ({ cls := "LongRowDeskModel", name := "reverse", desc := "(II)V" } : Jvm.MethodName) prog_3_method_6_code (7 : Nat) (Option.none : Option Jvm.ClassFile.FieldType)) ∈ lw_all := lw_g (lw_at lw_m2 47 rfl) rfl
theorem q293 : (Jvm.Cond.instanceMethod ({ cls := "LongRowDeskModel", name := "most", desc := "()J" } : Jvm.MethodName)) ∈ lw_all := lw_g (lw_at lw_m2 49 rfl) rfl
theorem q294 : (Jvm.Cond.selects "LongRowDeskModel" ({ cls := "LongRowDeskModel", name := "most", desc := "()J" } : Jvm.MethodName) ({ cls := "LongRowDeskModel", name := "most", desc := "()J" } : Jvm.MethodName)) ∈ lw_all := lw_g (lw_at lw_m2 50 rfl) rfl
theorem q295 : (Jvm.Cond.code ({ cls := "LongRowDeskModel", name := "most", desc := "()J" } : Jvm.MethodName) prog_3_method_7_code (8 : Nat) (Option.some Jvm.ClassFile.FieldType.long)) ∈ lw_all := lw_g (lw_at lw_m2 51 rfl) rfl
theorem q297 : (Jvm.Cond.instanceMethod ({ cls := "LongRowDeskModel", name := "least", desc := "()J" } : Jvm.MethodName)) ∈ lw_all := lw_g (lw_at lw_m2 53 rfl) rfl
theorem q298 : (Jvm.Cond.selects "LongRowDeskModel" ({ cls := "LongRowDeskModel", name := "least", desc := "()J" } : Jvm.MethodName) ({ cls := "LongRowDeskModel", name := "least", desc := "()J" } : Jvm.MethodName)) ∈ lw_all := lw_g (lw_at lw_m2 54 rfl) rfl
theorem q299 : (Jvm.Cond.code ({ cls := "LongRowDeskModel", name := "least", desc := "()J" } : Jvm.MethodName) prog_3_method_8_code (8 : Nat) (Option.some Jvm.ClassFile.FieldType.long)) ∈ lw_all := lw_g (lw_at lw_m2 55 rfl) rfl
theorem q301 : (Jvm.Cond.instanceMethod ({ cls := "LongRowDeskModel", name := "find", desc := "(II)I" } : Jvm.MethodName)) ∈ lw_all := lw_g (lw_at lw_m2 57 rfl) rfl
theorem q302 : (Jvm.Cond.selects "LongRowDeskModel" ({ cls := "LongRowDeskModel", name := "find", desc := "(II)I" } : Jvm.MethodName) ({ cls := "LongRowDeskModel", name := "find", desc := "(II)I" } : Jvm.MethodName)) ∈ lw_all := lw_g (lw_at lw_m2 58 rfl) rfl
theorem q303 : (Jvm.Cond.code ({ cls := "LongRowDeskModel", name := "find", desc := "(II)I" } : Jvm.MethodName) prog_3_method_9_code (7 : Nat) (Option.some Jvm.ClassFile.FieldType.int)) ∈ lw_all := lw_g (lw_at lw_m2 59 rfl) rfl
theorem q305 : (Jvm.Cond.instanceMethod ({ cls := "LongRowDeskModel", name := "findLast", desc := "(II)I" } : Jvm.MethodName)) ∈ lw_all := lw_g (lw_at lw_m2 61 rfl) rfl
theorem q306 : (Jvm.Cond.selects "LongRowDeskModel" ({ cls := "LongRowDeskModel", name := "findLast", desc := "(II)I" } : Jvm.MethodName) ({ cls := "LongRowDeskModel", name := "findLast", desc := "(II)I" } : Jvm.MethodName)) ∈ lw_all := lw_g (lw_at lw_m2 62 rfl) rfl
theorem q307 : (Jvm.Cond.code ({ cls := "LongRowDeskModel", name := "findLast", desc := "(II)I" } : Jvm.MethodName) prog_3_method_10_code (7 : Nat) (Option.some Jvm.ClassFile.FieldType.int)) ∈ lw_all := lw_g (lw_at lw_m2 63 rfl) rfl
theorem q309 : (Jvm.Cond.instanceMethod ({ cls := "LongRowDeskModel", name := "has", desc := "(II)Z" } : Jvm.MethodName)) ∈ lw_all := lw_g (lw_at lw_m2 65 rfl) rfl
theorem q310 : (Jvm.Cond.selects "LongRowDeskModel" ({ cls := "LongRowDeskModel", name := "has", desc := "(II)Z" } : Jvm.MethodName) ({ cls := "LongRowDeskModel", name := "has", desc := "(II)Z" } : Jvm.MethodName)) ∈ lw_all := lw_g (lw_at lw_m2 66 rfl) rfl
theorem q311 : (Jvm.Cond.code ({ cls := "LongRowDeskModel", name := "has", desc := "(II)Z" } : Jvm.MethodName) prog_3_method_11_code (3 : Nat) (Option.some Jvm.ClassFile.FieldType.boolean)) ∈ lw_all := lw_g (lw_at lw_m2 67 rfl) rfl
theorem q312 : (Jvm.Cond.methodLink "LongRowDeskModel" (24 : Nat) ({ cls := "LongRowDeskModel", name := "find", desc := "(II)I" } : Jvm.MethodName)) ∈ lw_all := lw_g (lw_at lw_m2 68 rfl) rfl
theorem q314 : (Jvm.Cond.instanceMethod ({ cls := "LongRowDeskModel", name := "ofBytes", desc := "(II)J" } : Jvm.MethodName)) ∈ lw_all := lw_g (lw_at lw_m2 70 rfl) rfl
theorem q315 : (Jvm.Cond.selects "LongRowDeskModel" ({ cls := "LongRowDeskModel", name := "ofBytes", desc := "(II)J" } : Jvm.MethodName) ({ cls := "LongRowDeskModel", name := "ofBytes", desc := "(II)J" } : Jvm.MethodName)) ∈ lw_all := lw_g (lw_at lw_m2 71 rfl) rfl
theorem q316 : (Jvm.Cond.code ({ cls := "LongRowDeskModel", name := "ofBytes", desc := "(II)J" } : Jvm.MethodName) prog_3_method_12_code (7 : Nat) (Option.some Jvm.ClassFile.FieldType.long)) ∈ lw_all := lw_g (lw_at lw_m2 72 rfl) rfl
theorem q317 : (Jvm.Cond.constantLong "LongRowDeskModel" (28 : Nat) (256 : Int64)) ∈ lw_all := lw_g (lw_at lw_m2 73 rfl) rfl
theorem q319 : (Jvm.Cond.instanceMethod ({ cls := "LongRowDeskModel", name := "letter", desc := "(II)I" } : Jvm.MethodName)) ∈ lw_all := lw_g (lw_at lw_m2 75 rfl) rfl
theorem q320 : (Jvm.Cond.selects "LongRowDeskModel" ({ cls := "LongRowDeskModel", name := "letter", desc := "(II)I" } : Jvm.MethodName) ({ cls := "LongRowDeskModel", name := "letter", desc := "(II)I" } : Jvm.MethodName)) ∈ lw_all := lw_g (lw_at lw_m2 76 rfl) rfl
theorem q321 : (Jvm.Cond.code ({ cls := "LongRowDeskModel", name := "letter", desc := "(II)I" } : Jvm.MethodName) prog_3_method_13_code (3 : Nat) (Option.some Jvm.ClassFile.FieldType.int)) ∈ lw_all := lw_g (lw_at lw_m2 77 rfl) rfl
theorem q322 : (Jvm.Cond.methodLink "LongRowDeskModel" (30 : Nat) ({ cls := "LongRowDeskModel", name := "get", desc := "(I)J" } : Jvm.MethodName)) ∈ lw_all := lw_g (lw_at lw_m2 78 rfl) rfl
theorem q323 : (Jvm.Cond.constantLong "LongRowDeskModel" (34 : Nat) (255 : Int64)) ∈ lw_all := lw_g (lw_at lw_m2 79 rfl) rfl
theorem q325 : (Jvm.Cond.instanceMethod ({ cls := "LongRowDeskModel", name := "within", desc := "(III)J" } : Jvm.MethodName)) ∈ lw_all := lw_g (lw_at lw_m2 81 rfl) rfl
theorem q326 : (Jvm.Cond.selects "LongRowDeskModel" ({ cls := "LongRowDeskModel", name := "within", desc := "(III)J" } : Jvm.MethodName) ({ cls := "LongRowDeskModel", name := "within", desc := "(III)J" } : Jvm.MethodName)) ∈ lw_all := lw_g (lw_at lw_m2 82 rfl) rfl
theorem q327 : (Jvm.Cond.code ({ cls := "LongRowDeskModel", name := "within", desc := "(III)J" } : Jvm.MethodName) prog_3_method_14_code (10 : Nat) (Option.some Jvm.ClassFile.FieldType.long)) ∈ lw_all := lw_g (lw_at lw_m2 83 rfl) rfl
theorem q328 : (Jvm.Cond.methodLink "LongRowDeskModel" (36 : Nat) ({ cls := "java/lang/Math", name := "min", desc := "(JJ)J" } : Jvm.MethodName)) ∈ lw_all := lw_g (lw_at lw_m2 84 rfl) rfl
theorem q329 : (Jvm.Cond.methodLink "LongRowDeskModel" (42 : Nat) ({ cls := "java/lang/Math", name := "max", desc := "(JJ)J" } : Jvm.MethodName)) ∈ lw_all := lw_g (lw_at lw_m2 85 rfl) rfl
theorem in_X1 : ∀ w ∈ wsX10, w ∈ lw_all := lw_in wsX10 [269] (by decide +kernel) (by decide +kernel)
end
section
/-! names of Longs (X2) and Preconditions (X3) -/
set_option maxRecDepth 100000
def RX2 : String := "Longs"
abbrev cX2_reverse : ByteArray := prog_4_method_11_code
def yX2_reverse : MethodName := ⟨RX2, "reverse", "([JII)V"⟩
theorem dX2_reverse_0 : decode cX2_reverse 0 = .ok (.aload_n 0, 1) := by decide +kernel
theorem dX2_reverse_1 : decode cX2_reverse 1 = .ok (.invokestatic 32, 3) := by decide +kernel
theorem dX2_reverse_4 : decode cX2_reverse 4 = .ok (.pop, 1) := by decide +kernel
theorem dX2_reverse_5 : decode cX2_reverse 5 = .ok (.iload_n 1, 1) := by decide +kernel
theorem dX2_reverse_6 : decode cX2_reverse 6 = .ok (.iload_n 2, 1) := by decide +kernel
theorem dX2_reverse_7 : decode cX2_reverse 7 = .ok (.aload_n 0, 1) := by decide +kernel
theorem dX2_reverse_8 : decode cX2_reverse 8 = .ok (.arraylength, 1) := by decide +kernel
theorem dX2_reverse_9 : decode cX2_reverse 9 = .ok (.invokestatic 36, 3) := by decide +kernel
theorem dX2_reverse_12 : decode cX2_reverse 12 = .ok (.iload_n 1, 1) := by decide +kernel
theorem dX2_reverse_13 : decode cX2_reverse 13 = .ok (.istore_n 3, 1) := by decide +kernel
theorem dX2_reverse_14 : decode cX2_reverse 14 = .ok (.iload_n 2, 1) := by decide +kernel
theorem dX2_reverse_15 : decode cX2_reverse 15 = .ok (.iconst 1, 1) := by decide +kernel
theorem dX2_reverse_16 : decode cX2_reverse 16 = .ok (.isub, 1) := by decide +kernel
theorem dX2_reverse_17 : decode cX2_reverse 17 = .ok (.istore 4, 2) := by decide +kernel
theorem dX2_reverse_19 : decode cX2_reverse 19 = .ok (.iload_n 3, 1) := by decide +kernel
theorem dX2_reverse_20 : decode cX2_reverse 20 = .ok (.iload 4, 2) := by decide +kernel
theorem dX2_reverse_22 : decode cX2_reverse 22 = .ok (.if_icmp .ge 30, 3) := by decide +kernel
theorem dX2_reverse_25 : decode cX2_reverse 25 = .ok (.aload_n 0, 1) := by decide +kernel
theorem dX2_reverse_26 : decode cX2_reverse 26 = .ok (.iload_n 3, 1) := by decide +kernel
theorem dX2_reverse_27 : decode cX2_reverse 27 = .ok (.laload, 1) := by decide +kernel
theorem dX2_reverse_28 : decode cX2_reverse 28 = .ok (.lstore 5, 2) := by decide +kernel
theorem dX2_reverse_30 : decode cX2_reverse 30 = .ok (.aload_n 0, 1) := by decide +kernel
theorem dX2_reverse_31 : decode cX2_reverse 31 = .ok (.iload_n 3, 1) := by decide +kernel
theorem dX2_reverse_32 : decode cX2_reverse 32 = .ok (.aload_n 0, 1) := by decide +kernel
theorem dX2_reverse_33 : decode cX2_reverse 33 = .ok (.iload 4, 2) := by decide +kernel
theorem dX2_reverse_35 : decode cX2_reverse 35 = .ok (.laload, 1) := by decide +kernel
theorem dX2_reverse_36 : decode cX2_reverse 36 = .ok (.lastore, 1) := by decide +kernel
theorem dX2_reverse_37 : decode cX2_reverse 37 = .ok (.aload_n 0, 1) := by decide +kernel
theorem dX2_reverse_38 : decode cX2_reverse 38 = .ok (.iload 4, 2) := by decide +kernel
theorem dX2_reverse_40 : decode cX2_reverse 40 = .ok (.lload 5, 2) := by decide +kernel
theorem dX2_reverse_42 : decode cX2_reverse 42 = .ok (.lastore, 1) := by decide +kernel
theorem dX2_reverse_43 : decode cX2_reverse 43 = .ok (.iinc 3 1, 3) := by decide +kernel
theorem dX2_reverse_46 : decode cX2_reverse 46 = .ok (.iinc 4 (-1), 3) := by decide +kernel
theorem dX2_reverse_49 : decode cX2_reverse 49 = .ok (.goto (-30), 3) := by decide +kernel
theorem dX2_reverse_52 : decode cX2_reverse 52 = .ok (.return_, 1) := by decide +kernel
abbrev cX2_max : ByteArray := prog_4_method_7_code
def yX2_max : MethodName := ⟨RX2, "max", "([J)J"⟩
theorem dX2_max_0 : decode cX2_max 0 = .ok (.aload_n 0, 1) := by decide +kernel
theorem dX2_max_1 : decode cX2_max 1 = .ok (.arraylength, 1) := by decide +kernel
theorem dX2_max_2 : decode cX2_max 2 = .ok (.ifCond .le 7, 3) := by decide +kernel
theorem dX2_max_5 : decode cX2_max 5 = .ok (.iconst 1, 1) := by decide +kernel
theorem dX2_max_6 : decode cX2_max 6 = .ok (.goto 4, 3) := by decide +kernel
theorem dX2_max_9 : decode cX2_max 9 = .ok (.iconst 0, 1) := by decide +kernel
theorem dX2_max_10 : decode cX2_max 10 = .ok (.invokestatic 10, 3) := by decide +kernel
theorem dX2_max_13 : decode cX2_max 13 = .ok (.aload_n 0, 1) := by decide +kernel
theorem dX2_max_14 : decode cX2_max 14 = .ok (.iconst 0, 1) := by decide +kernel
theorem dX2_max_15 : decode cX2_max 15 = .ok (.laload, 1) := by decide +kernel
theorem dX2_max_16 : decode cX2_max 16 = .ok (.lstore_n 1, 1) := by decide +kernel
theorem dX2_max_17 : decode cX2_max 17 = .ok (.iconst 1, 1) := by decide +kernel
theorem dX2_max_18 : decode cX2_max 18 = .ok (.istore_n 3, 1) := by decide +kernel
theorem dX2_max_19 : decode cX2_max 19 = .ok (.iload_n 3, 1) := by decide +kernel
theorem dX2_max_20 : decode cX2_max 20 = .ok (.aload_n 0, 1) := by decide +kernel
theorem dX2_max_21 : decode cX2_max 21 = .ok (.arraylength, 1) := by decide +kernel
theorem dX2_max_22 : decode cX2_max 22 = .ok (.if_icmp .ge 21, 3) := by decide +kernel
theorem dX2_max_25 : decode cX2_max 25 = .ok (.aload_n 0, 1) := by decide +kernel
theorem dX2_max_26 : decode cX2_max 26 = .ok (.iload_n 3, 1) := by decide +kernel
theorem dX2_max_27 : decode cX2_max 27 = .ok (.laload, 1) := by decide +kernel
theorem dX2_max_28 : decode cX2_max 28 = .ok (.lload_n 1, 1) := by decide +kernel
theorem dX2_max_29 : decode cX2_max 29 = .ok (.lcmp, 1) := by decide +kernel
theorem dX2_max_30 : decode cX2_max 30 = .ok (.ifCond .le 7, 3) := by decide +kernel
theorem dX2_max_33 : decode cX2_max 33 = .ok (.aload_n 0, 1) := by decide +kernel
theorem dX2_max_34 : decode cX2_max 34 = .ok (.iload_n 3, 1) := by decide +kernel
theorem dX2_max_35 : decode cX2_max 35 = .ok (.laload, 1) := by decide +kernel
theorem dX2_max_36 : decode cX2_max 36 = .ok (.lstore_n 1, 1) := by decide +kernel
theorem dX2_max_37 : decode cX2_max 37 = .ok (.iinc 3 1, 3) := by decide +kernel
theorem dX2_max_40 : decode cX2_max 40 = .ok (.goto (-21), 3) := by decide +kernel
theorem dX2_max_43 : decode cX2_max 43 = .ok (.lload_n 1, 1) := by decide +kernel
theorem dX2_max_44 : decode cX2_max 44 = .ok (.lreturn, 1) := by decide +kernel
abbrev cX2_min : ByteArray := prog_4_method_6_code
def yX2_min : MethodName := ⟨RX2, "min", "([J)J"⟩
theorem dX2_min_0 : decode cX2_min 0 = .ok (.aload_n 0, 1) := by decide +kernel
theorem dX2_min_1 : decode cX2_min 1 = .ok (.arraylength, 1) := by decide +kernel
theorem dX2_min_2 : decode cX2_min 2 = .ok (.ifCond .le 7, 3) := by decide +kernel
theorem dX2_min_5 : decode cX2_min 5 = .ok (.iconst 1, 1) := by decide +kernel
theorem dX2_min_6 : decode cX2_min 6 = .ok (.goto 4, 3) := by decide +kernel
theorem dX2_min_9 : decode cX2_min 9 = .ok (.iconst 0, 1) := by decide +kernel
theorem dX2_min_10 : decode cX2_min 10 = .ok (.invokestatic 10, 3) := by decide +kernel
theorem dX2_min_13 : decode cX2_min 13 = .ok (.aload_n 0, 1) := by decide +kernel
theorem dX2_min_14 : decode cX2_min 14 = .ok (.iconst 0, 1) := by decide +kernel
theorem dX2_min_15 : decode cX2_min 15 = .ok (.laload, 1) := by decide +kernel
theorem dX2_min_16 : decode cX2_min 16 = .ok (.lstore_n 1, 1) := by decide +kernel
theorem dX2_min_17 : decode cX2_min 17 = .ok (.iconst 1, 1) := by decide +kernel
theorem dX2_min_18 : decode cX2_min 18 = .ok (.istore_n 3, 1) := by decide +kernel
theorem dX2_min_19 : decode cX2_min 19 = .ok (.iload_n 3, 1) := by decide +kernel
theorem dX2_min_20 : decode cX2_min 20 = .ok (.aload_n 0, 1) := by decide +kernel
theorem dX2_min_21 : decode cX2_min 21 = .ok (.arraylength, 1) := by decide +kernel
theorem dX2_min_22 : decode cX2_min 22 = .ok (.if_icmp .ge 21, 3) := by decide +kernel
theorem dX2_min_25 : decode cX2_min 25 = .ok (.aload_n 0, 1) := by decide +kernel
theorem dX2_min_26 : decode cX2_min 26 = .ok (.iload_n 3, 1) := by decide +kernel
theorem dX2_min_27 : decode cX2_min 27 = .ok (.laload, 1) := by decide +kernel
theorem dX2_min_28 : decode cX2_min 28 = .ok (.lload_n 1, 1) := by decide +kernel
theorem dX2_min_29 : decode cX2_min 29 = .ok (.lcmp, 1) := by decide +kernel
theorem dX2_min_30 : decode cX2_min 30 = .ok (.ifCond .ge 7, 3) := by decide +kernel
theorem dX2_min_33 : decode cX2_min 33 = .ok (.aload_n 0, 1) := by decide +kernel
theorem dX2_min_34 : decode cX2_min 34 = .ok (.iload_n 3, 1) := by decide +kernel
theorem dX2_min_35 : decode cX2_min 35 = .ok (.laload, 1) := by decide +kernel
theorem dX2_min_36 : decode cX2_min 36 = .ok (.lstore_n 1, 1) := by decide +kernel
theorem dX2_min_37 : decode cX2_min 37 = .ok (.iinc 3 1, 3) := by decide +kernel
theorem dX2_min_40 : decode cX2_min 40 = .ok (.goto (-21), 3) := by decide +kernel
theorem dX2_min_43 : decode cX2_min 43 = .ok (.lload_n 1, 1) := by decide +kernel
theorem dX2_min_44 : decode cX2_min 44 = .ok (.lreturn, 1) := by decide +kernel
abbrev cX2_indexOf : ByteArray := prog_4_method_2_code
def yX2_indexOf : MethodName := ⟨RX2, "indexOf", "([JJ)I"⟩
theorem dX2_indexOf_0 : decode cX2_indexOf 0 = .ok (.aload_n 0, 1) := by decide +kernel
theorem dX2_indexOf_1 : decode cX2_indexOf 1 = .ok (.lload_n 1, 1) := by decide +kernel
theorem dX2_indexOf_2 : decode cX2_indexOf 2 = .ok (.iconst 0, 1) := by decide +kernel
theorem dX2_indexOf_3 : decode cX2_indexOf 3 = .ok (.aload_n 0, 1) := by decide +kernel
theorem dX2_indexOf_4 : decode cX2_indexOf 4 = .ok (.arraylength, 1) := by decide +kernel
theorem dX2_indexOf_5 : decode cX2_indexOf 5 = .ok (.invokestatic 1, 3) := by decide +kernel
theorem dX2_indexOf_8 : decode cX2_indexOf 8 = .ok (.ireturn, 1) := by decide +kernel
abbrev cX2_indexOf_2 : ByteArray := prog_4_method_3_code
def yX2_indexOf_2 : MethodName := ⟨RX2, "indexOf", "([JJII)I"⟩
theorem dX2_indexOf_2_0 : decode cX2_indexOf_2 0 = .ok (.iload_n 3, 1) := by decide +kernel
theorem dX2_indexOf_2_1 : decode cX2_indexOf_2 1 = .ok (.istore 5, 2) := by decide +kernel
theorem dX2_indexOf_2_3 : decode cX2_indexOf_2 3 = .ok (.iload 5, 2) := by decide +kernel
theorem dX2_indexOf_2_5 : decode cX2_indexOf_2 5 = .ok (.iload 4, 2) := by decide +kernel
theorem dX2_indexOf_2_7 : decode cX2_indexOf_2 7 = .ok (.if_icmp .ge 21, 3) := by decide +kernel
theorem dX2_indexOf_2_10 : decode cX2_indexOf_2 10 = .ok (.aload_n 0, 1) := by decide +kernel
theorem dX2_indexOf_2_11 : decode cX2_indexOf_2 11 = .ok (.iload 5, 2) := by decide +kernel
theorem dX2_indexOf_2_13 : decode cX2_indexOf_2 13 = .ok (.laload, 1) := by decide +kernel
theorem dX2_indexOf_2_14 : decode cX2_indexOf_2 14 = .ok (.lload_n 1, 1) := by decide +kernel
theorem dX2_indexOf_2_15 : decode cX2_indexOf_2 15 = .ok (.lcmp, 1) := by decide +kernel
theorem dX2_indexOf_2_16 : decode cX2_indexOf_2 16 = .ok (.ifCond .ne 6, 3) := by decide +kernel
theorem dX2_indexOf_2_19 : decode cX2_indexOf_2 19 = .ok (.iload 5, 2) := by decide +kernel
theorem dX2_indexOf_2_21 : decode cX2_indexOf_2 21 = .ok (.ireturn, 1) := by decide +kernel
theorem dX2_indexOf_2_22 : decode cX2_indexOf_2 22 = .ok (.iinc 5 1, 3) := by decide +kernel
theorem dX2_indexOf_2_25 : decode cX2_indexOf_2 25 = .ok (.goto (-22), 3) := by decide +kernel
theorem dX2_indexOf_2_28 : decode cX2_indexOf_2 28 = .ok (.iconst (-1), 1) := by decide +kernel
theorem dX2_indexOf_2_29 : decode cX2_indexOf_2 29 = .ok (.ireturn, 1) := by decide +kernel
abbrev cX2_lastIndexOf : ByteArray := prog_4_method_4_code
def yX2_lastIndexOf : MethodName := ⟨RX2, "lastIndexOf", "([JJ)I"⟩
theorem dX2_lastIndexOf_0 : decode cX2_lastIndexOf 0 = .ok (.aload_n 0, 1) := by decide +kernel
theorem dX2_lastIndexOf_1 : decode cX2_lastIndexOf 1 = .ok (.lload_n 1, 1) := by decide +kernel
theorem dX2_lastIndexOf_2 : decode cX2_lastIndexOf 2 = .ok (.iconst 0, 1) := by decide +kernel
theorem dX2_lastIndexOf_3 : decode cX2_lastIndexOf 3 = .ok (.aload_n 0, 1) := by decide +kernel
theorem dX2_lastIndexOf_4 : decode cX2_lastIndexOf 4 = .ok (.arraylength, 1) := by decide +kernel
theorem dX2_lastIndexOf_5 : decode cX2_lastIndexOf 5 = .ok (.invokestatic 7, 3) := by decide +kernel
theorem dX2_lastIndexOf_8 : decode cX2_lastIndexOf 8 = .ok (.ireturn, 1) := by decide +kernel
abbrev cX2_lastIndexOf_2 : ByteArray := prog_4_method_5_code
def yX2_lastIndexOf_2 : MethodName := ⟨RX2, "lastIndexOf", "([JJII)I"⟩
theorem dX2_lastIndexOf_2_0 : decode cX2_lastIndexOf_2 0 = .ok (.iload 4, 2) := by decide +kernel
theorem dX2_lastIndexOf_2_2 : decode cX2_lastIndexOf_2 2 = .ok (.iconst 1, 1) := by decide +kernel
theorem dX2_lastIndexOf_2_3 : decode cX2_lastIndexOf_2 3 = .ok (.isub, 1) := by decide +kernel
theorem dX2_lastIndexOf_2_4 : decode cX2_lastIndexOf_2 4 = .ok (.istore 5, 2) := by decide +kernel
theorem dX2_lastIndexOf_2_6 : decode cX2_lastIndexOf_2 6 = .ok (.iload 5, 2) := by decide +kernel
theorem dX2_lastIndexOf_2_8 : decode cX2_lastIndexOf_2 8 = .ok (.iload_n 3, 1) := by decide +kernel
theorem dX2_lastIndexOf_2_9 : decode cX2_lastIndexOf_2 9 = .ok (.if_icmp .lt 21, 3) := by decide +kernel
theorem dX2_lastIndexOf_2_12 : decode cX2_lastIndexOf_2 12 = .ok (.aload_n 0, 1) := by decide +kernel
theorem dX2_lastIndexOf_2_13 : decode cX2_lastIndexOf_2 13 = .ok (.iload 5, 2) := by decide +kernel
theorem dX2_lastIndexOf_2_15 : decode cX2_lastIndexOf_2 15 = .ok (.laload, 1) := by decide +kernel
theorem dX2_lastIndexOf_2_16 : decode cX2_lastIndexOf_2 16 = .ok (.lload_n 1, 1) := by decide +kernel
theorem dX2_lastIndexOf_2_17 : decode cX2_lastIndexOf_2 17 = .ok (.lcmp, 1) := by decide +kernel
theorem dX2_lastIndexOf_2_18 : decode cX2_lastIndexOf_2 18 = .ok (.ifCond .ne 6, 3) := by decide +kernel
theorem dX2_lastIndexOf_2_21 : decode cX2_lastIndexOf_2 21 = .ok (.iload 5, 2) := by decide +kernel
theorem dX2_lastIndexOf_2_23 : decode cX2_lastIndexOf_2 23 = .ok (.ireturn, 1) := by decide +kernel
theorem dX2_lastIndexOf_2_24 : decode cX2_lastIndexOf_2 24 = .ok (.iinc 5 (-1), 3) := by decide +kernel
theorem dX2_lastIndexOf_2_27 : decode cX2_lastIndexOf_2 27 = .ok (.goto (-21), 3) := by decide +kernel
theorem dX2_lastIndexOf_2_30 : decode cX2_lastIndexOf_2 30 = .ok (.iconst (-1), 1) := by decide +kernel
theorem dX2_lastIndexOf_2_31 : decode cX2_lastIndexOf_2 31 = .ok (.ireturn, 1) := by decide +kernel
abbrev cX2_contains : ByteArray := prog_4_method_1_code
def yX2_contains : MethodName := ⟨RX2, "contains", "([JJ)Z"⟩
theorem dX2_contains_0 : decode cX2_contains 0 = .ok (.aload_n 0, 1) := by decide +kernel
theorem dX2_contains_1 : decode cX2_contains 1 = .ok (.astore_n 3, 1) := by decide +kernel
theorem dX2_contains_2 : decode cX2_contains 2 = .ok (.aload_n 3, 1) := by decide +kernel
theorem dX2_contains_3 : decode cX2_contains 3 = .ok (.arraylength, 1) := by decide +kernel
theorem dX2_contains_4 : decode cX2_contains 4 = .ok (.istore 4, 2) := by decide +kernel
theorem dX2_contains_6 : decode cX2_contains 6 = .ok (.iconst 0, 1) := by decide +kernel
theorem dX2_contains_7 : decode cX2_contains 7 = .ok (.istore 5, 2) := by decide +kernel
theorem dX2_contains_9 : decode cX2_contains 9 = .ok (.iload 5, 2) := by decide +kernel
theorem dX2_contains_11 : decode cX2_contains 11 = .ok (.iload 4, 2) := by decide +kernel
theorem dX2_contains_13 : decode cX2_contains 13 = .ok (.if_icmp .ge 24, 3) := by decide +kernel
theorem dX2_contains_16 : decode cX2_contains 16 = .ok (.aload_n 3, 1) := by decide +kernel
theorem dX2_contains_17 : decode cX2_contains 17 = .ok (.iload 5, 2) := by decide +kernel
theorem dX2_contains_19 : decode cX2_contains 19 = .ok (.laload, 1) := by decide +kernel
theorem dX2_contains_20 : decode cX2_contains 20 = .ok (.lstore 6, 2) := by decide +kernel
theorem dX2_contains_22 : decode cX2_contains 22 = .ok (.lload 6, 2) := by decide +kernel
theorem dX2_contains_24 : decode cX2_contains 24 = .ok (.lload_n 1, 1) := by decide +kernel
theorem dX2_contains_25 : decode cX2_contains 25 = .ok (.lcmp, 1) := by decide +kernel
theorem dX2_contains_26 : decode cX2_contains 26 = .ok (.ifCond .ne 5, 3) := by decide +kernel
theorem dX2_contains_29 : decode cX2_contains 29 = .ok (.iconst 1, 1) := by decide +kernel
theorem dX2_contains_30 : decode cX2_contains 30 = .ok (.ireturn, 1) := by decide +kernel
theorem dX2_contains_31 : decode cX2_contains 31 = .ok (.iinc 5 1, 3) := by decide +kernel
theorem dX2_contains_34 : decode cX2_contains 34 = .ok (.goto (-25), 3) := by decide +kernel
theorem dX2_contains_37 : decode cX2_contains 37 = .ok (.iconst 0, 1) := by decide +kernel
theorem dX2_contains_38 : decode cX2_contains 38 = .ok (.ireturn, 1) := by decide +kernel
abbrev cX2_fromBytes : ByteArray := prog_4_method_10_code
def yX2_fromBytes : MethodName := ⟨RX2, "fromBytes", "(BBBBBBBB)J"⟩
theorem dX2_fromBytes_0 : decode cX2_fromBytes 0 = .ok (.iload_n 0, 1) := by decide +kernel
theorem dX2_fromBytes_1 : decode cX2_fromBytes 1 = .ok (.i2l, 1) := by decide +kernel
theorem dX2_fromBytes_2 : decode cX2_fromBytes 2 = .ok (.ldc2_w 30, 3) := by decide +kernel
theorem dX2_fromBytes_5 : decode cX2_fromBytes 5 = .ok (.land, 1) := by decide +kernel
theorem dX2_fromBytes_6 : decode cX2_fromBytes 6 = .ok (.bipush 56, 2) := by decide +kernel
theorem dX2_fromBytes_8 : decode cX2_fromBytes 8 = .ok (.lshl, 1) := by decide +kernel
theorem dX2_fromBytes_9 : decode cX2_fromBytes 9 = .ok (.iload_n 1, 1) := by decide +kernel
theorem dX2_fromBytes_10 : decode cX2_fromBytes 10 = .ok (.i2l, 1) := by decide +kernel
theorem dX2_fromBytes_11 : decode cX2_fromBytes 11 = .ok (.ldc2_w 30, 3) := by decide +kernel
theorem dX2_fromBytes_14 : decode cX2_fromBytes 14 = .ok (.land, 1) := by decide +kernel
theorem dX2_fromBytes_15 : decode cX2_fromBytes 15 = .ok (.bipush 48, 2) := by decide +kernel
theorem dX2_fromBytes_17 : decode cX2_fromBytes 17 = .ok (.lshl, 1) := by decide +kernel
theorem dX2_fromBytes_18 : decode cX2_fromBytes 18 = .ok (.lor, 1) := by decide +kernel
theorem dX2_fromBytes_19 : decode cX2_fromBytes 19 = .ok (.iload_n 2, 1) := by decide +kernel
theorem dX2_fromBytes_20 : decode cX2_fromBytes 20 = .ok (.i2l, 1) := by decide +kernel
theorem dX2_fromBytes_21 : decode cX2_fromBytes 21 = .ok (.ldc2_w 30, 3) := by decide +kernel
theorem dX2_fromBytes_24 : decode cX2_fromBytes 24 = .ok (.land, 1) := by decide +kernel
theorem dX2_fromBytes_25 : decode cX2_fromBytes 25 = .ok (.bipush 40, 2) := by decide +kernel
theorem dX2_fromBytes_27 : decode cX2_fromBytes 27 = .ok (.lshl, 1) := by decide +kernel
theorem dX2_fromBytes_28 : decode cX2_fromBytes 28 = .ok (.lor, 1) := by decide +kernel
theorem dX2_fromBytes_29 : decode cX2_fromBytes 29 = .ok (.iload_n 3, 1) := by decide +kernel
theorem dX2_fromBytes_30 : decode cX2_fromBytes 30 = .ok (.i2l, 1) := by decide +kernel
theorem dX2_fromBytes_31 : decode cX2_fromBytes 31 = .ok (.ldc2_w 30, 3) := by decide +kernel
theorem dX2_fromBytes_34 : decode cX2_fromBytes 34 = .ok (.land, 1) := by decide +kernel
theorem dX2_fromBytes_35 : decode cX2_fromBytes 35 = .ok (.bipush 32, 2) := by decide +kernel
theorem dX2_fromBytes_37 : decode cX2_fromBytes 37 = .ok (.lshl, 1) := by decide +kernel
theorem dX2_fromBytes_38 : decode cX2_fromBytes 38 = .ok (.lor, 1) := by decide +kernel
theorem dX2_fromBytes_39 : decode cX2_fromBytes 39 = .ok (.iload 4, 2) := by decide +kernel
theorem dX2_fromBytes_41 : decode cX2_fromBytes 41 = .ok (.i2l, 1) := by decide +kernel
theorem dX2_fromBytes_42 : decode cX2_fromBytes 42 = .ok (.ldc2_w 30, 3) := by decide +kernel
theorem dX2_fromBytes_45 : decode cX2_fromBytes 45 = .ok (.land, 1) := by decide +kernel
theorem dX2_fromBytes_46 : decode cX2_fromBytes 46 = .ok (.bipush 24, 2) := by decide +kernel
theorem dX2_fromBytes_48 : decode cX2_fromBytes 48 = .ok (.lshl, 1) := by decide +kernel
theorem dX2_fromBytes_49 : decode cX2_fromBytes 49 = .ok (.lor, 1) := by decide +kernel
theorem dX2_fromBytes_50 : decode cX2_fromBytes 50 = .ok (.iload 5, 2) := by decide +kernel
theorem dX2_fromBytes_52 : decode cX2_fromBytes 52 = .ok (.i2l, 1) := by decide +kernel
theorem dX2_fromBytes_53 : decode cX2_fromBytes 53 = .ok (.ldc2_w 30, 3) := by decide +kernel
theorem dX2_fromBytes_56 : decode cX2_fromBytes 56 = .ok (.land, 1) := by decide +kernel
theorem dX2_fromBytes_57 : decode cX2_fromBytes 57 = .ok (.bipush 16, 2) := by decide +kernel
theorem dX2_fromBytes_59 : decode cX2_fromBytes 59 = .ok (.lshl, 1) := by decide +kernel
theorem dX2_fromBytes_60 : decode cX2_fromBytes 60 = .ok (.lor, 1) := by decide +kernel
theorem dX2_fromBytes_61 : decode cX2_fromBytes 61 = .ok (.iload 6, 2) := by decide +kernel
theorem dX2_fromBytes_63 : decode cX2_fromBytes 63 = .ok (.i2l, 1) := by decide +kernel
theorem dX2_fromBytes_64 : decode cX2_fromBytes 64 = .ok (.ldc2_w 30, 3) := by decide +kernel
theorem dX2_fromBytes_67 : decode cX2_fromBytes 67 = .ok (.land, 1) := by decide +kernel
theorem dX2_fromBytes_68 : decode cX2_fromBytes 68 = .ok (.bipush 8, 2) := by decide +kernel
theorem dX2_fromBytes_70 : decode cX2_fromBytes 70 = .ok (.lshl, 1) := by decide +kernel
theorem dX2_fromBytes_71 : decode cX2_fromBytes 71 = .ok (.lor, 1) := by decide +kernel
theorem dX2_fromBytes_72 : decode cX2_fromBytes 72 = .ok (.iload 7, 2) := by decide +kernel
theorem dX2_fromBytes_74 : decode cX2_fromBytes 74 = .ok (.i2l, 1) := by decide +kernel
theorem dX2_fromBytes_75 : decode cX2_fromBytes 75 = .ok (.ldc2_w 30, 3) := by decide +kernel
theorem dX2_fromBytes_78 : decode cX2_fromBytes 78 = .ok (.land, 1) := by decide +kernel
theorem dX2_fromBytes_79 : decode cX2_fromBytes 79 = .ok (.lor, 1) := by decide +kernel
theorem dX2_fromBytes_80 : decode cX2_fromBytes 80 = .ok (.lreturn, 1) := by decide +kernel
abbrev cX2_toByteArray : ByteArray := prog_4_method_9_code
def yX2_toByteArray : MethodName := ⟨RX2, "toByteArray", "(J)[B"⟩
theorem dX2_toByteArray_0 : decode cX2_toByteArray 0 = .ok (.bipush 8, 2) := by decide +kernel
theorem dX2_toByteArray_2 : decode cX2_toByteArray 2 = .ok (.newarray .byte, 2) := by decide +kernel
theorem dX2_toByteArray_4 : decode cX2_toByteArray 4 = .ok (.astore_n 2, 1) := by decide +kernel
theorem dX2_toByteArray_5 : decode cX2_toByteArray 5 = .ok (.bipush 7, 2) := by decide +kernel
theorem dX2_toByteArray_7 : decode cX2_toByteArray 7 = .ok (.istore_n 3, 1) := by decide +kernel
theorem dX2_toByteArray_8 : decode cX2_toByteArray 8 = .ok (.iload_n 3, 1) := by decide +kernel
theorem dX2_toByteArray_9 : decode cX2_toByteArray 9 = .ok (.ifCond .lt 24, 3) := by decide +kernel
theorem dX2_toByteArray_12 : decode cX2_toByteArray 12 = .ok (.aload_n 2, 1) := by decide +kernel
theorem dX2_toByteArray_13 : decode cX2_toByteArray 13 = .ok (.iload_n 3, 1) := by decide +kernel
theorem dX2_toByteArray_14 : decode cX2_toByteArray 14 = .ok (.lload_n 0, 1) := by decide +kernel
theorem dX2_toByteArray_15 : decode cX2_toByteArray 15 = .ok (.ldc2_w 30, 3) := by decide +kernel
theorem dX2_toByteArray_18 : decode cX2_toByteArray 18 = .ok (.land, 1) := by decide +kernel
theorem dX2_toByteArray_19 : decode cX2_toByteArray 19 = .ok (.l2i, 1) := by decide +kernel
theorem dX2_toByteArray_20 : decode cX2_toByteArray 20 = .ok (.i2b, 1) := by decide +kernel
theorem dX2_toByteArray_21 : decode cX2_toByteArray 21 = .ok (.bastore, 1) := by decide +kernel
theorem dX2_toByteArray_22 : decode cX2_toByteArray 22 = .ok (.lload_n 0, 1) := by decide +kernel
theorem dX2_toByteArray_23 : decode cX2_toByteArray 23 = .ok (.bipush 8, 2) := by decide +kernel
theorem dX2_toByteArray_25 : decode cX2_toByteArray 25 = .ok (.lshr, 1) := by decide +kernel
theorem dX2_toByteArray_26 : decode cX2_toByteArray 26 = .ok (.lstore_n 0, 1) := by decide +kernel
theorem dX2_toByteArray_27 : decode cX2_toByteArray 27 = .ok (.iinc 3 (-1), 3) := by decide +kernel
theorem dX2_toByteArray_30 : decode cX2_toByteArray 30 = .ok (.goto (-22), 3) := by decide +kernel
theorem dX2_toByteArray_33 : decode cX2_toByteArray 33 = .ok (.aload_n 2, 1) := by decide +kernel
theorem dX2_toByteArray_34 : decode cX2_toByteArray 34 = .ok (.areturn, 1) := by decide +kernel
abbrev cX2_constrainToRange : ByteArray := prog_4_method_8_code
def yX2_constrainToRange : MethodName := ⟨RX2, "constrainToRange", "(JJJ)J"⟩
theorem dX2_constrainToRange_0 : decode cX2_constrainToRange 0 = .ok (.lload_n 2, 1) := by decide +kernel
theorem dX2_constrainToRange_1 : decode cX2_constrainToRange 1 = .ok (.lload 4, 2) := by decide +kernel
theorem dX2_constrainToRange_3 : decode cX2_constrainToRange 3 = .ok (.lcmp, 1) := by decide +kernel
theorem dX2_constrainToRange_4 : decode cX2_constrainToRange 4 = .ok (.ifCond .gt 7, 3) := by decide +kernel
theorem dX2_constrainToRange_7 : decode cX2_constrainToRange 7 = .ok (.iconst 1, 1) := by decide +kernel
theorem dX2_constrainToRange_8 : decode cX2_constrainToRange 8 = .ok (.goto 4, 3) := by decide +kernel
theorem dX2_constrainToRange_11 : decode cX2_constrainToRange 11 = .ok (.iconst 0, 1) := by decide +kernel
theorem dX2_constrainToRange_12 : decode cX2_constrainToRange 12 = .ok (.ldc 16, 2) := by decide +kernel
theorem dX2_constrainToRange_14 : decode cX2_constrainToRange 14 = .ok (.lload_n 2, 1) := by decide +kernel
theorem dX2_constrainToRange_15 : decode cX2_constrainToRange 15 = .ok (.lload 4, 2) := by decide +kernel
theorem dX2_constrainToRange_17 : decode cX2_constrainToRange 17 = .ok (.invokestatic 18, 3) := by decide +kernel
theorem dX2_constrainToRange_20 : decode cX2_constrainToRange 20 = .ok (.lload_n 0, 1) := by decide +kernel
theorem dX2_constrainToRange_21 : decode cX2_constrainToRange 21 = .ok (.lload_n 2, 1) := by decide +kernel
theorem dX2_constrainToRange_22 : decode cX2_constrainToRange 22 = .ok (.invokestatic 21, 3) := by decide +kernel
theorem dX2_constrainToRange_25 : decode cX2_constrainToRange 25 = .ok (.lload 4, 2) := by decide +kernel
theorem dX2_constrainToRange_27 : decode cX2_constrainToRange 27 = .ok (.invokestatic 27, 3) := by decide +kernel
theorem dX2_constrainToRange_30 : decode cX2_constrainToRange 30 = .ok (.lreturn, 1) := by decide +kernel
theorem q7 : (Jvm.Cond.initialized "Longs") ∈ lw_all := lw_g (lw_at lw_m1 3 rfl) rfl
theorem q55 : (Jvm.Cond.static ({ cls := "Longs", name := "reverse", desc := "([JII)V" } : Jvm.MethodName)) ∈ lw_all := lw_g (lw_at lw_m1 51 rfl) rfl
theorem q56 : (Jvm.Cond.code ({ cls := "Longs", name := "reverse", desc := "([JII)V" } : Jvm.MethodName) prog_4_method_11_code (7 : Nat) (Option.none : Option Jvm.ClassFile.FieldType)) ∈ lw_all := lw_g (lw_at lw_m1 52 rfl) rfl
theorem q57 : (Jvm.Cond.methodLink "Longs" (32 : Nat) ({ cls := "Preconditions", name := "checkNotNull", desc := "(Ljava/lang/Object;)Ljava/lang/Object;" } : Jvm.MethodName)) ∈ lw_all := lw_g (lw_at lw_m1 53 rfl) rfl
theorem q126 : (Jvm.Cond.methodLink "Longs" (36 : Nat) ({ cls := "Preconditions", name := "checkPositionIndexes", desc := "(III)V" } : Jvm.MethodName)) ∈ lw_all := lw_g (lw_at lw_m1 122 rfl) rfl
theorem q172 : (Jvm.Cond.static ({ cls := "Longs", name := "max", desc := "([J)J" } : Jvm.MethodName)) ∈ lw_all := lw_g (lw_at lw_m1 168 rfl) rfl
theorem q173 : (Jvm.Cond.code ({ cls := "Longs", name := "max", desc := "([J)J" } : Jvm.MethodName) prog_4_method_7_code (4 : Nat) (Option.some Jvm.ClassFile.FieldType.long)) ∈ lw_all := lw_g (lw_at lw_m1 169 rfl) rfl
theorem q174 : (Jvm.Cond.methodLink "Longs" (10 : Nat) ({ cls := "Preconditions", name := "checkArgument", desc := "(Z)V" } : Jvm.MethodName)) ∈ lw_all := lw_g (lw_at lw_m1 170 rfl) rfl
theorem q197 : (Jvm.Cond.static ({ cls := "Longs", name := "min", desc := "([J)J" } : Jvm.MethodName)) ∈ lw_all := lw_g (lw_at lw_m1 193 rfl) rfl
theorem q198 : (Jvm.Cond.code ({ cls := "Longs", name := "min", desc := "([J)J" } : Jvm.MethodName) prog_4_method_6_code (4 : Nat) (Option.some Jvm.ClassFile.FieldType.long)) ∈ lw_all := lw_g (lw_at lw_m1 194 rfl) rfl
theorem q204 : (Jvm.Cond.static ({ cls := "Longs", name := "indexOf", desc := "([JJ)I" } : Jvm.MethodName)) ∈ lw_all := lw_g (lw_at lw_m1 200 rfl) rfl
theorem q205 : (Jvm.Cond.code ({ cls := "Longs", name := "indexOf", desc := "([JJ)I" } : Jvm.MethodName) prog_4_method_2_code (3 : Nat) (Option.some Jvm.ClassFile.FieldType.int)) ∈ lw_all := lw_g (lw_at lw_m1 201 rfl) rfl
theorem q206 : (Jvm.Cond.methodLink "Longs" (1 : Nat) ({ cls := "Longs", name := "indexOf", desc := "([JJII)I" } : Jvm.MethodName)) ∈ lw_all := lw_g (lw_at lw_m1 202 rfl) rfl
theorem q207 : (Jvm.Cond.static ({ cls := "Longs", name := "indexOf", desc := "([JJII)I" } : Jvm.MethodName)) ∈ lw_all := lw_g (lw_at lw_m1 203 rfl) rfl
theorem q208 : (Jvm.Cond.code ({ cls := "Longs", name := "indexOf", desc := "([JJII)I" } : Jvm.MethodName) prog_4_method_3_code (6 : Nat) (Option.some Jvm.ClassFile.FieldType.int)) ∈ lw_all := lw_g (lw_at lw_m1 204 rfl) rfl
theorem q214 : (Jvm.Cond.static ({ cls := "Longs", name := "lastIndexOf", desc := "([JJ)I" } : Jvm.MethodName)) ∈ lw_all := lw_g (lw_at lw_m1 210 rfl) rfl
theorem q215 : (Jvm.Cond.code ({ cls := "Longs", name := "lastIndexOf", desc := "([JJ)I" } : Jvm.MethodName) prog_4_method_4_code (3 : Nat) (Option.some Jvm.ClassFile.FieldType.int)) ∈ lw_all := lw_g (lw_at lw_m1 211 rfl) rfl
theorem q216 : (Jvm.Cond.methodLink "Longs" (7 : Nat) ({ cls := "Longs", name := "lastIndexOf", desc := "([JJII)I" } : Jvm.MethodName)) ∈ lw_all := lw_g (lw_at lw_m1 212 rfl) rfl
theorem q217 : (Jvm.Cond.static ({ cls := "Longs", name := "lastIndexOf", desc := "([JJII)I" } : Jvm.MethodName)) ∈ lw_all := lw_g (lw_at lw_m1 213 rfl) rfl
theorem q218 : (Jvm.Cond.code ({ cls := "Longs", name := "lastIndexOf", desc := "([JJII)I" } : Jvm.MethodName) prog_4_method_5_code (6 : Nat) (Option.some Jvm.ClassFile.FieldType.int)) ∈ lw_all := lw_g (lw_at lw_m1 214 rfl) rfl
theorem q224 : (Jvm.Cond.static ({ cls := "Longs", name := "contains", desc := "([JJ)Z" } : Jvm.MethodName)) ∈ lw_all := lw_g (lw_at lw_m1 220 rfl) rfl
theorem q225 : (Jvm.Cond.code ({ cls := "Longs", name := "contains", desc := "([JJ)Z" } : Jvm.MethodName) prog_4_method_1_code (8 : Nat) (Option.some Jvm.ClassFile.FieldType.boolean)) ∈ lw_all := lw_g (lw_at lw_m1 221 rfl) rfl
theorem q231 : (Jvm.Cond.static ({ cls := "Longs", name := "fromBytes", desc := "(BBBBBBBB)J" } : Jvm.MethodName)) ∈ lw_all := lw_g (lw_at lw_m1 227 rfl) rfl
theorem q232 : (Jvm.Cond.code ({ cls := "Longs", name := "fromBytes", desc := "(BBBBBBBB)J" } : Jvm.MethodName) prog_4_method_10_code (8 : Nat) (Option.some Jvm.ClassFile.FieldType.long)) ∈ lw_all := lw_g (lw_at lw_m1 228 rfl) rfl
theorem q233 : (Jvm.Cond.constantLong "Longs" (30 : Nat) (255 : Int64)) ∈ lw_all := lw_g (lw_at lw_m1 229 rfl) rfl
theorem q239 : (Jvm.Cond.static ({ cls := "Longs", name := "toByteArray", desc := "(J)[B" } : Jvm.MethodName)) ∈ lw_all := lw_g (lw_at lw_m1 235 rfl) rfl
theorem q240 : (Jvm.Cond.code ({ cls := "Longs", name := "toByteArray", desc := "(J)[B" } : Jvm.MethodName) prog_4_method_9_code (4 : Nat) (Option.some (Jvm.ClassFile.FieldType.array Jvm.ClassFile.FieldType.byte))) ∈ lw_all := lw_g (lw_at lw_m1 236 rfl) rfl
theorem q246 : (Jvm.Cond.static ({ cls := "Longs", name := "constrainToRange", desc := "(JJJ)J" } : Jvm.MethodName)) ∈ lw_all := lw_g (lw_at lw_m2 2 rfl) rfl
theorem q247 : (Jvm.Cond.code ({ cls := "Longs", name := "constrainToRange", desc := "(JJJ)J" } : Jvm.MethodName) prog_4_method_8_code (6 : Nat) (Option.some Jvm.ClassFile.FieldType.long)) ∈ lw_all := lw_g (lw_at lw_m2 3 rfl) rfl
theorem q248 : (Jvm.Cond.stringRef "Longs" (16 : Nat) "min (%s) must be less than or equal to max (%s)") ∈ lw_tbl := lw_at lw_m2 4 rfl
theorem q249 : (Jvm.Cond.methodLink "Longs" (18 : Nat) ({ cls := "Preconditions", name := "checkArgument", desc := "(ZLjava/lang/String;JJ)V" } : Jvm.MethodName)) ∈ lw_all := lw_g (lw_at lw_m2 5 rfl) rfl
theorem q256 : (Jvm.Cond.methodLink "Longs" (21 : Nat) ({ cls := "java/lang/Math", name := "max", desc := "(JJ)J" } : Jvm.MethodName)) ∈ lw_all := lw_g (lw_at lw_m2 12 rfl) rfl
theorem q259 : (Jvm.Cond.methodLink "Longs" (27 : Nat) ({ cls := "java/lang/Math", name := "min", desc := "(JJ)J" } : Jvm.MethodName)) ∈ lw_all := lw_g (lw_at lw_m2 15 rfl) rfl
def RX3 : String := "Preconditions"
abbrev cX3_checkNotNull : ByteArray := prog_5_method_3_code
def yX3_checkNotNull : MethodName := ⟨RX3, "checkNotNull", "(Ljava/lang/Object;)Ljava/lang/Object;"⟩
theorem dX3_checkNotNull_0 : decode cX3_checkNotNull 0 = .ok (.aload_n 0, 1) := by decide +kernel
theorem dX3_checkNotNull_1 : decode cX3_checkNotNull 1 = .ok (.ifnonnull 11, 3) := by decide +kernel
theorem dX3_checkNotNull_4 : decode cX3_checkNotNull 4 = .ok (.new 12, 3) := by decide +kernel
theorem dX3_checkNotNull_7 : decode cX3_checkNotNull 7 = .ok (.dup, 1) := by decide +kernel
theorem dX3_checkNotNull_8 : decode cX3_checkNotNull 8 = .ok (.invokespecial 14, 3) := by decide +kernel
theorem dX3_checkNotNull_11 : decode cX3_checkNotNull 11 = .ok (.athrow, 1) := by decide +kernel
theorem dX3_checkNotNull_12 : decode cX3_checkNotNull 12 = .ok (.aload_n 0, 1) := by decide +kernel
theorem dX3_checkNotNull_13 : decode cX3_checkNotNull 13 = .ok (.areturn, 1) := by decide +kernel
abbrev cX3_checkPositionIndexes : ByteArray := prog_5_method_4_code
def yX3_checkPositionIndexes : MethodName := ⟨RX3, "checkPositionIndexes", "(III)V"⟩
theorem dX3_checkPositionIndexes_0 : decode cX3_checkPositionIndexes 0 = .ok (.iload_n 0, 1) := by decide +kernel
theorem dX3_checkPositionIndexes_1 : decode cX3_checkPositionIndexes 1 = .ok (.ifCond .lt 13, 3) := by decide +kernel
theorem dX3_checkPositionIndexes_4 : decode cX3_checkPositionIndexes 4 = .ok (.iload_n 1, 1) := by decide +kernel
theorem dX3_checkPositionIndexes_5 : decode cX3_checkPositionIndexes 5 = .ok (.iload_n 0, 1) := by decide +kernel
theorem dX3_checkPositionIndexes_6 : decode cX3_checkPositionIndexes 6 = .ok (.if_icmp .lt 8, 3) := by decide +kernel
theorem dX3_checkPositionIndexes_9 : decode cX3_checkPositionIndexes 9 = .ok (.iload_n 1, 1) := by decide +kernel
theorem dX3_checkPositionIndexes_10 : decode cX3_checkPositionIndexes 10 = .ok (.iload_n 2, 1) := by decide +kernel
theorem dX3_checkPositionIndexes_11 : decode cX3_checkPositionIndexes 11 = .ok (.if_icmp .le 13, 3) := by decide +kernel
theorem dX3_checkPositionIndexes_14 : decode cX3_checkPositionIndexes 14 = .ok (.new 15, 3) := by decide +kernel
theorem dX3_checkPositionIndexes_17 : decode cX3_checkPositionIndexes 17 = .ok (.dup, 1) := by decide +kernel
theorem dX3_checkPositionIndexes_18 : decode cX3_checkPositionIndexes 18 = .ok (.ldc 7, 2) := by decide +kernel
theorem dX3_checkPositionIndexes_20 : decode cX3_checkPositionIndexes 20 = .ok (.invokespecial 17, 3) := by decide +kernel
theorem dX3_checkPositionIndexes_23 : decode cX3_checkPositionIndexes 23 = .ok (.athrow, 1) := by decide +kernel
theorem dX3_checkPositionIndexes_24 : decode cX3_checkPositionIndexes 24 = .ok (.return_, 1) := by decide +kernel
abbrev cX3_checkArgument : ByteArray := prog_5_method_1_code
def yX3_checkArgument : MethodName := ⟨RX3, "checkArgument", "(Z)V"⟩
theorem dX3_checkArgument_0 : decode cX3_checkArgument 0 = .ok (.iload_n 0, 1) := by decide +kernel
theorem dX3_checkArgument_1 : decode cX3_checkArgument 1 = .ok (.ifCond .ne 11, 3) := by decide +kernel
theorem dX3_checkArgument_4 : decode cX3_checkArgument 4 = .ok (.new 1, 3) := by decide +kernel
theorem dX3_checkArgument_7 : decode cX3_checkArgument 7 = .ok (.dup, 1) := by decide +kernel
theorem dX3_checkArgument_8 : decode cX3_checkArgument 8 = .ok (.invokespecial 3, 3) := by decide +kernel
theorem dX3_checkArgument_11 : decode cX3_checkArgument 11 = .ok (.athrow, 1) := by decide +kernel
theorem dX3_checkArgument_12 : decode cX3_checkArgument 12 = .ok (.return_, 1) := by decide +kernel
abbrev cX3_checkArgument_2 : ByteArray := prog_5_method_2_code
def yX3_checkArgument_2 : MethodName := ⟨RX3, "checkArgument", "(ZLjava/lang/String;JJ)V"⟩
theorem dX3_checkArgument_2_0 : decode cX3_checkArgument_2 0 = .ok (.iload_n 0, 1) := by decide +kernel
theorem dX3_checkArgument_2_1 : decode cX3_checkArgument_2 1 = .ok (.ifCond .ne 13, 3) := by decide +kernel
theorem dX3_checkArgument_2_4 : decode cX3_checkArgument_2 4 = .ok (.new 1, 3) := by decide +kernel
theorem dX3_checkArgument_2_7 : decode cX3_checkArgument_2 7 = .ok (.dup, 1) := by decide +kernel
theorem dX3_checkArgument_2_8 : decode cX3_checkArgument_2 8 = .ok (.ldc 7, 2) := by decide +kernel
theorem dX3_checkArgument_2_10 : decode cX3_checkArgument_2 10 = .ok (.invokespecial 9, 3) := by decide +kernel
theorem dX3_checkArgument_2_13 : decode cX3_checkArgument_2 13 = .ok (.athrow, 1) := by decide +kernel
theorem dX3_checkArgument_2_14 : decode cX3_checkArgument_2 14 = .ok (.return_, 1) := by decide +kernel
theorem q8 : (Jvm.Cond.initialized "Preconditions") ∈ lw_all := lw_g (lw_at lw_m1 4 rfl) rfl
theorem q58 : (Jvm.Cond.static ({ cls := "Preconditions", name := "checkNotNull", desc := "(Ljava/lang/Object;)Ljava/lang/Object;" } : Jvm.MethodName)) ∈ lw_all := lw_g (lw_at lw_m1 54 rfl) rfl
theorem q59 : (Jvm.Cond.code ({ cls := "Preconditions", name := "checkNotNull", desc := "(Ljava/lang/Object;)Ljava/lang/Object;" } : Jvm.MethodName) prog_5_method_3_code (1 : Nat) (Option.some (Jvm.ClassFile.FieldType.object "java/lang/Object"))) ∈ lw_all := lw_g (lw_at lw_m1 55 rfl) rfl
theorem q60 : (Jvm.Cond.classLink "Preconditions" (12 : Nat) "java/lang/NullPointerException") ∈ lw_all := lw_g (lw_at lw_m1 56 rfl) rfl
theorem q62 : (Jvm.Cond.methodLink "Preconditions" (14 : Nat) ({ cls := "java/lang/NullPointerException", name := "<init>", desc := "()V" } : Jvm.MethodName)) ∈ lw_all := lw_g (lw_at lw_m1 58 rfl) rfl
theorem q127 : (Jvm.Cond.static ({ cls := "Preconditions", name := "checkPositionIndexes", desc := "(III)V" } : Jvm.MethodName)) ∈ lw_all := lw_g (lw_at lw_m1 123 rfl) rfl
theorem q128 : (Jvm.Cond.code ({ cls := "Preconditions", name := "checkPositionIndexes", desc := "(III)V" } : Jvm.MethodName) prog_5_method_4_code (3 : Nat) (Option.none : Option Jvm.ClassFile.FieldType)) ∈ lw_all := lw_g (lw_at lw_m1 124 rfl) rfl
theorem q129 : (Jvm.Cond.classLink "Preconditions" (15 : Nat) "java/lang/IndexOutOfBoundsException") ∈ lw_all := lw_g (lw_at lw_m1 125 rfl) rfl
theorem q151 : (Jvm.Cond.stringRef "Preconditions" (7 : Nat) "left out") ∈ lw_tbl := lw_at lw_m1 147 rfl
theorem q152 : (Jvm.Cond.methodLink "Preconditions" (17 : Nat) ({ cls := "java/lang/IndexOutOfBoundsException", name := "<init>", desc := "(Ljava/lang/String;)V" } : Jvm.MethodName)) ∈ lw_all := lw_g (lw_at lw_m1 148 rfl) rfl
theorem q175 : (Jvm.Cond.static ({ cls := "Preconditions", name := "checkArgument", desc := "(Z)V" } : Jvm.MethodName)) ∈ lw_all := lw_g (lw_at lw_m1 171 rfl) rfl
theorem q176 : (Jvm.Cond.code ({ cls := "Preconditions", name := "checkArgument", desc := "(Z)V" } : Jvm.MethodName) prog_5_method_1_code (1 : Nat) (Option.none : Option Jvm.ClassFile.FieldType)) ∈ lw_all := lw_g (lw_at lw_m1 172 rfl) rfl
theorem q177 : (Jvm.Cond.classLink "Preconditions" (1 : Nat) "java/lang/IllegalArgumentException") ∈ lw_all := lw_g (lw_at lw_m1 173 rfl) rfl
theorem q186 : (Jvm.Cond.methodLink "Preconditions" (3 : Nat) ({ cls := "java/lang/IllegalArgumentException", name := "<init>", desc := "()V" } : Jvm.MethodName)) ∈ lw_all := lw_g (lw_at lw_m1 182 rfl) rfl
theorem q250 : (Jvm.Cond.static ({ cls := "Preconditions", name := "checkArgument", desc := "(ZLjava/lang/String;JJ)V" } : Jvm.MethodName)) ∈ lw_all := lw_g (lw_at lw_m2 6 rfl) rfl
theorem q251 : (Jvm.Cond.code ({ cls := "Preconditions", name := "checkArgument", desc := "(ZLjava/lang/String;JJ)V" } : Jvm.MethodName) prog_5_method_2_code (6 : Nat) (Option.none : Option Jvm.ClassFile.FieldType)) ∈ lw_all := lw_g (lw_at lw_m2 7 rfl) rfl
theorem q252 : (Jvm.Cond.methodLink "Preconditions" (9 : Nat) ({ cls := "java/lang/IllegalArgumentException", name := "<init>", desc := "(Ljava/lang/String;)V" } : Jvm.MethodName)) ∈ lw_all := lw_g (lw_at lw_m2 8 rfl) rfl
end
section
/-! words of Math, Object, the law -/
set_option maxRecDepth 100000
def RJ6 : String := "java/lang/Math"
abbrev cJ6_max : ByteArray := prog_9_method_66_code
def yJ6_max : MethodName := ⟨RJ6, "max", "(JJ)J"⟩
abbrev cJ6_min : ByteArray := prog_9_method_70_code
def yJ6_min : MethodName := ⟨RJ6, "min", "(JJ)J"⟩
theorem q15 : (Jvm.Cond.initialized "java/lang/Math") ∈ lw_all := lw_g (lw_at lw_m1 11 rfl) rfl
theorem q257 : (Jvm.Cond.static ({ cls := "java/lang/Math", name := "max", desc := "(JJ)J" } : Jvm.MethodName)) ∈ lw_all := lw_g (lw_at lw_m2 13 rfl) rfl
theorem q258 : (Jvm.Cond.code ({ cls := "java/lang/Math", name := "max", desc := "(JJ)J" } : Jvm.MethodName) prog_9_method_66_code (4 : Nat) (Option.some Jvm.ClassFile.FieldType.long)) ∈ lw_all := lw_g (lw_at lw_m2 14 rfl) rfl
theorem q260 : (Jvm.Cond.static ({ cls := "java/lang/Math", name := "min", desc := "(JJ)J" } : Jvm.MethodName)) ∈ lw_all := lw_g (lw_at lw_m2 16 rfl) rfl
theorem q261 : (Jvm.Cond.code ({ cls := "java/lang/Math", name := "min", desc := "(JJ)J" } : Jvm.MethodName) prog_9_method_70_code (4 : Nat) (Option.some Jvm.ClassFile.FieldType.long)) ∈ lw_all := lw_g (lw_at lw_m2 17 rfl) rfl
def RJ7 : String := "java/lang/Object"
abbrev cJ7_init : ByteArray := object_method_1_code
def yJ7_init : MethodName := ⟨RJ7, "<init>", "()V"⟩
theorem q22 : (Jvm.Cond.instanceMethod ({ cls := "java/lang/Object", name := "<init>", desc := "()V" } : Jvm.MethodName)) ∈ lw_all := lw_g (lw_at lw_m1 18 rfl) rfl
theorem q23 : (Jvm.Cond.code ({ cls := "java/lang/Object", name := "<init>", desc := "()V" } : Jvm.MethodName) object_method_1_code (1 : Nat) (Option.none : Option Jvm.ClassFile.FieldType)) ∈ lw_all := lw_g (lw_at lw_m1 19 rfl) rfl
theorem q4 : (Jvm.Cond.initialized "LongRowDeskLaw") ∈ lw_all := lw_g (lw_at lw_m1 0 rfl) rfl
theorem q16 : (Jvm.Cond.classLink "LongRowDeskLaw" (7 : Nat) "LongRowDesk") ∈ lw_all := lw_g (lw_at lw_m1 12 rfl) rfl
theorem q18 : (Jvm.Cond.methodLink "LongRowDeskLaw" (9 : Nat) ({ cls := "LongRowDesk", name := "<init>", desc := "()V" } : Jvm.MethodName)) ∈ lw_all := lw_g (lw_at lw_m1 14 rfl) rfl
theorem q29 : (Jvm.Cond.methodLink "LongRowDeskLaw" (13 : Nat) ({ cls := "LongRowDesk", name := "set", desc := "(III)V" } : Jvm.MethodName)) ∈ lw_all := lw_g (lw_at lw_m1 25 rfl) rfl
theorem q38 : (Jvm.Cond.methodLink "LongRowDeskLaw" (18 : Nat) ({ cls := "LongRowDesk", name := "get", desc := "(I)J" } : Jvm.MethodName)) ∈ lw_all := lw_g (lw_at lw_m1 34 rfl) rfl
theorem q42 : (Jvm.Cond.methodLink "LongRowDeskLaw" (23 : Nat) ({ cls := "LongRowDesk", name := "reverse", desc := "(II)V" } : Jvm.MethodName)) ∈ lw_all := lw_g (lw_at lw_m1 38 rfl) rfl
theorem q167 : (Jvm.Cond.methodLink "LongRowDeskLaw" (28 : Nat) ({ cls := "LongRowDesk", name := "most", desc := "()J" } : Jvm.MethodName)) ∈ lw_all := lw_g (lw_at lw_m1 163 rfl) rfl
theorem q192 : (Jvm.Cond.methodLink "LongRowDeskLaw" (33 : Nat) ({ cls := "LongRowDesk", name := "least", desc := "()J" } : Jvm.MethodName)) ∈ lw_all := lw_g (lw_at lw_m1 188 rfl) rfl
theorem q199 : (Jvm.Cond.methodLink "LongRowDeskLaw" (37 : Nat) ({ cls := "LongRowDesk", name := "find", desc := "(II)I" } : Jvm.MethodName)) ∈ lw_all := lw_g (lw_at lw_m1 195 rfl) rfl
theorem q209 : (Jvm.Cond.methodLink "LongRowDeskLaw" (42 : Nat) ({ cls := "LongRowDesk", name := "findLast", desc := "(II)I" } : Jvm.MethodName)) ∈ lw_all := lw_g (lw_at lw_m1 205 rfl) rfl
theorem q219 : (Jvm.Cond.methodLink "LongRowDeskLaw" (46 : Nat) ({ cls := "LongRowDesk", name := "has", desc := "(II)Z" } : Jvm.MethodName)) ∈ lw_all := lw_g (lw_at lw_m1 215 rfl) rfl
theorem q226 : (Jvm.Cond.methodLink "LongRowDeskLaw" (51 : Nat) ({ cls := "LongRowDesk", name := "ofBytes", desc := "(II)J" } : Jvm.MethodName)) ∈ lw_all := lw_g (lw_at lw_m1 222 rfl) rfl
theorem q234 : (Jvm.Cond.methodLink "LongRowDeskLaw" (56 : Nat) ({ cls := "LongRowDesk", name := "letter", desc := "(II)I" } : Jvm.MethodName)) ∈ lw_all := lw_g (lw_at lw_m1 230 rfl) rfl
theorem q241 : (Jvm.Cond.methodLink "LongRowDeskLaw" (60 : Nat) ({ cls := "LongRowDesk", name := "within", desc := "(III)J" } : Jvm.MethodName)) ∈ lw_all := lw_g (lw_at lw_m1 237 rfl) rfl
theorem q262 : (Jvm.Cond.classLink "LongRowDeskLaw" (10 : Nat) "LongRowDeskModel") ∈ lw_all := lw_g (lw_at lw_m2 18 rfl) rfl
theorem q264 : (Jvm.Cond.methodLink "LongRowDeskLaw" (12 : Nat) ({ cls := "LongRowDeskModel", name := "<init>", desc := "()V" } : Jvm.MethodName)) ∈ lw_all := lw_g (lw_at lw_m2 20 rfl) rfl
theorem q272 : (Jvm.Cond.methodLink "LongRowDeskLaw" (17 : Nat) ({ cls := "LongRowDeskModel", name := "set", desc := "(III)V" } : Jvm.MethodName)) ∈ lw_all := lw_g (lw_at lw_m2 28 rfl) rfl
theorem q284 : (Jvm.Cond.methodLink "LongRowDeskLaw" (22 : Nat) ({ cls := "LongRowDeskModel", name := "get", desc := "(I)J" } : Jvm.MethodName)) ∈ lw_all := lw_g (lw_at lw_m2 40 rfl) rfl
theorem q288 : (Jvm.Cond.methodLink "LongRowDeskLaw" (27 : Nat) ({ cls := "LongRowDeskModel", name := "reverse", desc := "(II)V" } : Jvm.MethodName)) ∈ lw_all := lw_g (lw_at lw_m2 44 rfl) rfl
theorem q292 : (Jvm.Cond.methodLink "LongRowDeskLaw" (32 : Nat) ({ cls := "LongRowDeskModel", name := "most", desc := "()J" } : Jvm.MethodName)) ∈ lw_all := lw_g (lw_at lw_m2 48 rfl) rfl
theorem q296 : (Jvm.Cond.methodLink "LongRowDeskLaw" (36 : Nat) ({ cls := "LongRowDeskModel", name := "least", desc := "()J" } : Jvm.MethodName)) ∈ lw_all := lw_g (lw_at lw_m2 52 rfl) rfl
theorem q300 : (Jvm.Cond.methodLink "LongRowDeskLaw" (41 : Nat) ({ cls := "LongRowDeskModel", name := "find", desc := "(II)I" } : Jvm.MethodName)) ∈ lw_all := lw_g (lw_at lw_m2 56 rfl) rfl
theorem q304 : (Jvm.Cond.methodLink "LongRowDeskLaw" (45 : Nat) ({ cls := "LongRowDeskModel", name := "findLast", desc := "(II)I" } : Jvm.MethodName)) ∈ lw_all := lw_g (lw_at lw_m2 60 rfl) rfl
theorem q308 : (Jvm.Cond.methodLink "LongRowDeskLaw" (50 : Nat) ({ cls := "LongRowDeskModel", name := "has", desc := "(II)Z" } : Jvm.MethodName)) ∈ lw_all := lw_g (lw_at lw_m2 64 rfl) rfl
theorem q313 : (Jvm.Cond.methodLink "LongRowDeskLaw" (55 : Nat) ({ cls := "LongRowDeskModel", name := "ofBytes", desc := "(II)J" } : Jvm.MethodName)) ∈ lw_all := lw_g (lw_at lw_m2 69 rfl) rfl
theorem q318 : (Jvm.Cond.methodLink "LongRowDeskLaw" (59 : Nat) ({ cls := "LongRowDeskModel", name := "letter", desc := "(II)I" } : Jvm.MethodName)) ∈ lw_all := lw_g (lw_at lw_m2 74 rfl) rfl
theorem q324 : (Jvm.Cond.methodLink "LongRowDeskLaw" (64 : Nat) ({ cls := "LongRowDeskModel", name := "within", desc := "(III)J" } : Jvm.MethodName)) ∈ lw_all := lw_g (lw_at lw_m2 80 rfl) rfl
theorem q28 : (Jvm.Cond.arrayClass Jvm.ClassFile.FieldType.long) ∈ lw_all := lw_g (lw_at lw_m1 24 rfl) rfl
theorem q166 : (Jvm.Cond.arrayClass Jvm.ClassFile.FieldType.byte) ∈ lw_all := lw_g (lw_at lw_m1 162 rfl) rfl
end
section
/-! the law's decode rows, 1 of 3 -/
set_option maxRecDepth 100000
abbrev cL_law : ByteArray := code
theorem dL_law_0 : decode cL_law 0 = .ok (.new 7, 3) := by decide +kernel
theorem dL_law_3 : decode cL_law 3 = .ok (.dup, 1) := by decide +kernel
theorem dL_law_4 : decode cL_law 4 = .ok (.invokespecial 9, 3) := by decide +kernel
theorem dL_law_7 : decode cL_law 7 = .ok (.astore_n 1, 1) := by decide +kernel
theorem dL_law_8 : decode cL_law 8 = .ok (.new 10, 3) := by decide +kernel
theorem dL_law_11 : decode cL_law 11 = .ok (.dup, 1) := by decide +kernel
theorem dL_law_12 : decode cL_law 12 = .ok (.invokespecial 12, 3) := by decide +kernel
theorem dL_law_15 : decode cL_law 15 = .ok (.astore_n 2, 1) := by decide +kernel
theorem dL_law_16 : decode cL_law 16 = .ok (.iconst 0, 1) := by decide +kernel
theorem dL_law_17 : decode cL_law 17 = .ok (.istore_n 3, 1) := by decide +kernel
theorem dL_law_18 : decode cL_law 18 = .ok (.iload_n 3, 1) := by decide +kernel
theorem dL_law_19 : decode cL_law 19 = .ok (.aload_n 0, 1) := by decide +kernel
theorem dL_law_20 : decode cL_law 20 = .ok (.arraylength, 1) := by decide +kernel
theorem dL_law_21 : decode cL_law 21 = .ok (.bipush 6, 2) := by decide +kernel
theorem dL_law_23 : decode cL_law 23 = .ok (.isub, 1) := by decide +kernel
theorem dL_law_24 : decode cL_law 24 = .ok (.if_icmp .gt 408, 3) := by decide +kernel
theorem dL_law_27 : decode cL_law 27 = .ok (.aload_n 0, 1) := by decide +kernel
theorem dL_law_28 : decode cL_law 28 = .ok (.iload_n 3, 1) := by decide +kernel
theorem dL_law_29 : decode cL_law 29 = .ok (.iaload, 1) := by decide +kernel
theorem dL_law_30 : decode cL_law 30 = .ok (.bipush 15, 2) := by decide +kernel
theorem dL_law_32 : decode cL_law 32 = .ok (.iand, 1) := by decide +kernel
theorem dL_law_33 : decode cL_law 33 = .ok (.tableswitch 393 0 10 #[59, 100, 124, 155, 169, 183, 216, 249, 282, 316, 349], 59) := by decide +kernel
theorem dL_law_92 : decode cL_law 92 = .ok (.aload_n 1, 1) := by decide +kernel
theorem dL_law_93 : decode cL_law 93 = .ok (.aload_n 0, 1) := by decide +kernel
theorem dL_law_94 : decode cL_law 94 = .ok (.iload_n 3, 1) := by decide +kernel
theorem dL_law_95 : decode cL_law 95 = .ok (.iconst 1, 1) := by decide +kernel
theorem dL_law_96 : decode cL_law 96 = .ok (.iadd, 1) := by decide +kernel
theorem dL_law_97 : decode cL_law 97 = .ok (.iaload, 1) := by decide +kernel
theorem dL_law_98 : decode cL_law 98 = .ok (.aload_n 0, 1) := by decide +kernel
theorem dL_law_99 : decode cL_law 99 = .ok (.iload_n 3, 1) := by decide +kernel
theorem dL_law_100 : decode cL_law 100 = .ok (.iconst 2, 1) := by decide +kernel
theorem dL_law_101 : decode cL_law 101 = .ok (.iadd, 1) := by decide +kernel
theorem dL_law_102 : decode cL_law 102 = .ok (.iaload, 1) := by decide +kernel
theorem dL_law_103 : decode cL_law 103 = .ok (.aload_n 0, 1) := by decide +kernel
theorem dL_law_104 : decode cL_law 104 = .ok (.iload_n 3, 1) := by decide +kernel
theorem dL_law_105 : decode cL_law 105 = .ok (.iconst 3, 1) := by decide +kernel
theorem dL_law_106 : decode cL_law 106 = .ok (.iadd, 1) := by decide +kernel
theorem dL_law_107 : decode cL_law 107 = .ok (.iaload, 1) := by decide +kernel
theorem dL_law_108 : decode cL_law 108 = .ok (.invokevirtual 13, 3) := by decide +kernel
theorem dL_law_111 : decode cL_law 111 = .ok (.aload_n 2, 1) := by decide +kernel
theorem dL_law_112 : decode cL_law 112 = .ok (.aload_n 0, 1) := by decide +kernel
theorem dL_law_113 : decode cL_law 113 = .ok (.iload_n 3, 1) := by decide +kernel
theorem dL_law_114 : decode cL_law 114 = .ok (.iconst 1, 1) := by decide +kernel
theorem dL_law_115 : decode cL_law 115 = .ok (.iadd, 1) := by decide +kernel
theorem dL_law_116 : decode cL_law 116 = .ok (.iaload, 1) := by decide +kernel
theorem dL_law_117 : decode cL_law 117 = .ok (.aload_n 0, 1) := by decide +kernel
theorem dL_law_118 : decode cL_law 118 = .ok (.iload_n 3, 1) := by decide +kernel
theorem dL_law_119 : decode cL_law 119 = .ok (.iconst 2, 1) := by decide +kernel
theorem dL_law_120 : decode cL_law 120 = .ok (.iadd, 1) := by decide +kernel
theorem dL_law_121 : decode cL_law 121 = .ok (.iaload, 1) := by decide +kernel
theorem dL_law_122 : decode cL_law 122 = .ok (.aload_n 0, 1) := by decide +kernel
theorem dL_law_123 : decode cL_law 123 = .ok (.iload_n 3, 1) := by decide +kernel
theorem dL_law_124 : decode cL_law 124 = .ok (.iconst 3, 1) := by decide +kernel
theorem dL_law_125 : decode cL_law 125 = .ok (.iadd, 1) := by decide +kernel
theorem dL_law_126 : decode cL_law 126 = .ok (.iaload, 1) := by decide +kernel
theorem dL_law_127 : decode cL_law 127 = .ok (.invokevirtual 17, 3) := by decide +kernel
theorem dL_law_130 : decode cL_law 130 = .ok (.goto 296, 3) := by decide +kernel
theorem dL_law_133 : decode cL_law 133 = .ok (.aload_n 1, 1) := by decide +kernel
theorem dL_law_134 : decode cL_law 134 = .ok (.aload_n 0, 1) := by decide +kernel
theorem dL_law_135 : decode cL_law 135 = .ok (.iload_n 3, 1) := by decide +kernel
theorem dL_law_136 : decode cL_law 136 = .ok (.iconst 1, 1) := by decide +kernel
theorem dL_law_137 : decode cL_law 137 = .ok (.iadd, 1) := by decide +kernel
theorem dL_law_138 : decode cL_law 138 = .ok (.iaload, 1) := by decide +kernel
theorem dL_law_139 : decode cL_law 139 = .ok (.invokevirtual 18, 3) := by decide +kernel
theorem dL_law_142 : decode cL_law 142 = .ok (.aload_n 2, 1) := by decide +kernel
theorem dL_law_143 : decode cL_law 143 = .ok (.aload_n 0, 1) := by decide +kernel
theorem dL_law_144 : decode cL_law 144 = .ok (.iload_n 3, 1) := by decide +kernel
theorem dL_law_145 : decode cL_law 145 = .ok (.iconst 1, 1) := by decide +kernel
theorem dL_law_146 : decode cL_law 146 = .ok (.iadd, 1) := by decide +kernel
theorem dL_law_147 : decode cL_law 147 = .ok (.iaload, 1) := by decide +kernel
theorem dL_law_148 : decode cL_law 148 = .ok (.invokevirtual 22, 3) := by decide +kernel
theorem dL_law_151 : decode cL_law 151 = .ok (.lcmp, 1) := by decide +kernel
theorem dL_law_152 : decode cL_law 152 = .ok (.ifCond .eq 274, 3) := by decide +kernel
theorem dL_law_155 : decode cL_law 155 = .ok (.iconst 0, 1) := by decide +kernel
theorem dL_law_156 : decode cL_law 156 = .ok (.ireturn, 1) := by decide +kernel
theorem dL_law_157 : decode cL_law 157 = .ok (.aload_n 1, 1) := by decide +kernel
theorem dL_law_158 : decode cL_law 158 = .ok (.aload_n 0, 1) := by decide +kernel
theorem dL_law_159 : decode cL_law 159 = .ok (.iload_n 3, 1) := by decide +kernel
theorem dL_law_160 : decode cL_law 160 = .ok (.iconst 1, 1) := by decide +kernel
theorem dL_law_161 : decode cL_law 161 = .ok (.iadd, 1) := by decide +kernel
theorem dL_law_162 : decode cL_law 162 = .ok (.iaload, 1) := by decide +kernel
theorem dL_law_163 : decode cL_law 163 = .ok (.aload_n 0, 1) := by decide +kernel
theorem dL_law_164 : decode cL_law 164 = .ok (.iload_n 3, 1) := by decide +kernel
theorem dL_law_165 : decode cL_law 165 = .ok (.iconst 2, 1) := by decide +kernel
theorem dL_law_166 : decode cL_law 166 = .ok (.iadd, 1) := by decide +kernel
theorem dL_law_167 : decode cL_law 167 = .ok (.iaload, 1) := by decide +kernel
theorem dL_law_168 : decode cL_law 168 = .ok (.invokevirtual 23, 3) := by decide +kernel
theorem dL_law_171 : decode cL_law 171 = .ok (.aload_n 2, 1) := by decide +kernel
theorem dL_law_172 : decode cL_law 172 = .ok (.aload_n 0, 1) := by decide +kernel
theorem dL_law_173 : decode cL_law 173 = .ok (.iload_n 3, 1) := by decide +kernel
theorem dL_law_174 : decode cL_law 174 = .ok (.iconst 1, 1) := by decide +kernel
theorem dL_law_175 : decode cL_law 175 = .ok (.iadd, 1) := by decide +kernel
theorem dL_law_176 : decode cL_law 176 = .ok (.iaload, 1) := by decide +kernel
theorem dL_law_177 : decode cL_law 177 = .ok (.aload_n 0, 1) := by decide +kernel
theorem dL_law_178 : decode cL_law 178 = .ok (.iload_n 3, 1) := by decide +kernel
theorem dL_law_179 : decode cL_law 179 = .ok (.iconst 2, 1) := by decide +kernel
theorem dL_law_180 : decode cL_law 180 = .ok (.iadd, 1) := by decide +kernel
theorem dL_law_181 : decode cL_law 181 = .ok (.iaload, 1) := by decide +kernel
end
section
/-! the law's decode rows, 2 of 3 -/
set_option maxRecDepth 100000
theorem dL_law_182 : decode cL_law 182 = .ok (.invokevirtual 27, 3) := by decide +kernel
theorem dL_law_185 : decode cL_law 185 = .ok (.goto 241, 3) := by decide +kernel
theorem dL_law_188 : decode cL_law 188 = .ok (.aload_n 1, 1) := by decide +kernel
theorem dL_law_189 : decode cL_law 189 = .ok (.invokevirtual 28, 3) := by decide +kernel
theorem dL_law_192 : decode cL_law 192 = .ok (.aload_n 2, 1) := by decide +kernel
theorem dL_law_193 : decode cL_law 193 = .ok (.invokevirtual 32, 3) := by decide +kernel
theorem dL_law_196 : decode cL_law 196 = .ok (.lcmp, 1) := by decide +kernel
theorem dL_law_197 : decode cL_law 197 = .ok (.ifCond .eq 229, 3) := by decide +kernel
theorem dL_law_200 : decode cL_law 200 = .ok (.iconst 0, 1) := by decide +kernel
theorem dL_law_201 : decode cL_law 201 = .ok (.ireturn, 1) := by decide +kernel
theorem dL_law_202 : decode cL_law 202 = .ok (.aload_n 1, 1) := by decide +kernel
theorem dL_law_203 : decode cL_law 203 = .ok (.invokevirtual 33, 3) := by decide +kernel
theorem dL_law_206 : decode cL_law 206 = .ok (.aload_n 2, 1) := by decide +kernel
theorem dL_law_207 : decode cL_law 207 = .ok (.invokevirtual 36, 3) := by decide +kernel
theorem dL_law_210 : decode cL_law 210 = .ok (.lcmp, 1) := by decide +kernel
theorem dL_law_211 : decode cL_law 211 = .ok (.ifCond .eq 215, 3) := by decide +kernel
theorem dL_law_214 : decode cL_law 214 = .ok (.iconst 0, 1) := by decide +kernel
theorem dL_law_215 : decode cL_law 215 = .ok (.ireturn, 1) := by decide +kernel
theorem dL_law_216 : decode cL_law 216 = .ok (.aload_n 1, 1) := by decide +kernel
theorem dL_law_217 : decode cL_law 217 = .ok (.aload_n 0, 1) := by decide +kernel
theorem dL_law_218 : decode cL_law 218 = .ok (.iload_n 3, 1) := by decide +kernel
theorem dL_law_219 : decode cL_law 219 = .ok (.iconst 1, 1) := by decide +kernel
theorem dL_law_220 : decode cL_law 220 = .ok (.iadd, 1) := by decide +kernel
theorem dL_law_221 : decode cL_law 221 = .ok (.iaload, 1) := by decide +kernel
theorem dL_law_222 : decode cL_law 222 = .ok (.aload_n 0, 1) := by decide +kernel
theorem dL_law_223 : decode cL_law 223 = .ok (.iload_n 3, 1) := by decide +kernel
theorem dL_law_224 : decode cL_law 224 = .ok (.iconst 2, 1) := by decide +kernel
theorem dL_law_225 : decode cL_law 225 = .ok (.iadd, 1) := by decide +kernel
theorem dL_law_226 : decode cL_law 226 = .ok (.iaload, 1) := by decide +kernel
theorem dL_law_227 : decode cL_law 227 = .ok (.invokevirtual 37, 3) := by decide +kernel
theorem dL_law_230 : decode cL_law 230 = .ok (.aload_n 2, 1) := by decide +kernel
theorem dL_law_231 : decode cL_law 231 = .ok (.aload_n 0, 1) := by decide +kernel
theorem dL_law_232 : decode cL_law 232 = .ok (.iload_n 3, 1) := by decide +kernel
theorem dL_law_233 : decode cL_law 233 = .ok (.iconst 1, 1) := by decide +kernel
theorem dL_law_234 : decode cL_law 234 = .ok (.iadd, 1) := by decide +kernel
theorem dL_law_235 : decode cL_law 235 = .ok (.iaload, 1) := by decide +kernel
theorem dL_law_236 : decode cL_law 236 = .ok (.aload_n 0, 1) := by decide +kernel
theorem dL_law_237 : decode cL_law 237 = .ok (.iload_n 3, 1) := by decide +kernel
theorem dL_law_238 : decode cL_law 238 = .ok (.iconst 2, 1) := by decide +kernel
theorem dL_law_239 : decode cL_law 239 = .ok (.iadd, 1) := by decide +kernel
theorem dL_law_240 : decode cL_law 240 = .ok (.iaload, 1) := by decide +kernel
theorem dL_law_241 : decode cL_law 241 = .ok (.invokevirtual 41, 3) := by decide +kernel
theorem dL_law_244 : decode cL_law 244 = .ok (.if_icmp .eq 182, 3) := by decide +kernel
theorem dL_law_247 : decode cL_law 247 = .ok (.iconst 0, 1) := by decide +kernel
theorem dL_law_248 : decode cL_law 248 = .ok (.ireturn, 1) := by decide +kernel
theorem dL_law_249 : decode cL_law 249 = .ok (.aload_n 1, 1) := by decide +kernel
theorem dL_law_250 : decode cL_law 250 = .ok (.aload_n 0, 1) := by decide +kernel
theorem dL_law_251 : decode cL_law 251 = .ok (.iload_n 3, 1) := by decide +kernel
theorem dL_law_252 : decode cL_law 252 = .ok (.iconst 1, 1) := by decide +kernel
theorem dL_law_253 : decode cL_law 253 = .ok (.iadd, 1) := by decide +kernel
theorem dL_law_254 : decode cL_law 254 = .ok (.iaload, 1) := by decide +kernel
theorem dL_law_255 : decode cL_law 255 = .ok (.aload_n 0, 1) := by decide +kernel
theorem dL_law_256 : decode cL_law 256 = .ok (.iload_n 3, 1) := by decide +kernel
theorem dL_law_257 : decode cL_law 257 = .ok (.iconst 2, 1) := by decide +kernel
theorem dL_law_258 : decode cL_law 258 = .ok (.iadd, 1) := by decide +kernel
theorem dL_law_259 : decode cL_law 259 = .ok (.iaload, 1) := by decide +kernel
theorem dL_law_260 : decode cL_law 260 = .ok (.invokevirtual 42, 3) := by decide +kernel
theorem dL_law_263 : decode cL_law 263 = .ok (.aload_n 2, 1) := by decide +kernel
theorem dL_law_264 : decode cL_law 264 = .ok (.aload_n 0, 1) := by decide +kernel
theorem dL_law_265 : decode cL_law 265 = .ok (.iload_n 3, 1) := by decide +kernel
theorem dL_law_266 : decode cL_law 266 = .ok (.iconst 1, 1) := by decide +kernel
theorem dL_law_267 : decode cL_law 267 = .ok (.iadd, 1) := by decide +kernel
theorem dL_law_268 : decode cL_law 268 = .ok (.iaload, 1) := by decide +kernel
theorem dL_law_269 : decode cL_law 269 = .ok (.aload_n 0, 1) := by decide +kernel
theorem dL_law_270 : decode cL_law 270 = .ok (.iload_n 3, 1) := by decide +kernel
theorem dL_law_271 : decode cL_law 271 = .ok (.iconst 2, 1) := by decide +kernel
theorem dL_law_272 : decode cL_law 272 = .ok (.iadd, 1) := by decide +kernel
theorem dL_law_273 : decode cL_law 273 = .ok (.iaload, 1) := by decide +kernel
theorem dL_law_274 : decode cL_law 274 = .ok (.invokevirtual 45, 3) := by decide +kernel
theorem dL_law_277 : decode cL_law 277 = .ok (.if_icmp .eq 149, 3) := by decide +kernel
theorem dL_law_280 : decode cL_law 280 = .ok (.iconst 0, 1) := by decide +kernel
theorem dL_law_281 : decode cL_law 281 = .ok (.ireturn, 1) := by decide +kernel
theorem dL_law_282 : decode cL_law 282 = .ok (.aload_n 1, 1) := by decide +kernel
theorem dL_law_283 : decode cL_law 283 = .ok (.aload_n 0, 1) := by decide +kernel
theorem dL_law_284 : decode cL_law 284 = .ok (.iload_n 3, 1) := by decide +kernel
theorem dL_law_285 : decode cL_law 285 = .ok (.iconst 1, 1) := by decide +kernel
theorem dL_law_286 : decode cL_law 286 = .ok (.iadd, 1) := by decide +kernel
theorem dL_law_287 : decode cL_law 287 = .ok (.iaload, 1) := by decide +kernel
theorem dL_law_288 : decode cL_law 288 = .ok (.aload_n 0, 1) := by decide +kernel
theorem dL_law_289 : decode cL_law 289 = .ok (.iload_n 3, 1) := by decide +kernel
theorem dL_law_290 : decode cL_law 290 = .ok (.iconst 2, 1) := by decide +kernel
theorem dL_law_291 : decode cL_law 291 = .ok (.iadd, 1) := by decide +kernel
theorem dL_law_292 : decode cL_law 292 = .ok (.iaload, 1) := by decide +kernel
theorem dL_law_293 : decode cL_law 293 = .ok (.invokevirtual 46, 3) := by decide +kernel
theorem dL_law_296 : decode cL_law 296 = .ok (.aload_n 2, 1) := by decide +kernel
theorem dL_law_297 : decode cL_law 297 = .ok (.aload_n 0, 1) := by decide +kernel
theorem dL_law_298 : decode cL_law 298 = .ok (.iload_n 3, 1) := by decide +kernel
theorem dL_law_299 : decode cL_law 299 = .ok (.iconst 1, 1) := by decide +kernel
theorem dL_law_300 : decode cL_law 300 = .ok (.iadd, 1) := by decide +kernel
theorem dL_law_301 : decode cL_law 301 = .ok (.iaload, 1) := by decide +kernel
theorem dL_law_302 : decode cL_law 302 = .ok (.aload_n 0, 1) := by decide +kernel
theorem dL_law_303 : decode cL_law 303 = .ok (.iload_n 3, 1) := by decide +kernel
theorem dL_law_304 : decode cL_law 304 = .ok (.iconst 2, 1) := by decide +kernel
theorem dL_law_305 : decode cL_law 305 = .ok (.iadd, 1) := by decide +kernel
theorem dL_law_306 : decode cL_law 306 = .ok (.iaload, 1) := by decide +kernel
theorem dL_law_307 : decode cL_law 307 = .ok (.invokevirtual 50, 3) := by decide +kernel
theorem dL_law_310 : decode cL_law 310 = .ok (.if_icmp .eq 116, 3) := by decide +kernel
theorem dL_law_313 : decode cL_law 313 = .ok (.iconst 0, 1) := by decide +kernel
end
section
/-! the law's decode rows, 3 of 3 -/
set_option maxRecDepth 100000
theorem dL_law_314 : decode cL_law 314 = .ok (.ireturn, 1) := by decide +kernel
theorem dL_law_315 : decode cL_law 315 = .ok (.aload_n 1, 1) := by decide +kernel
theorem dL_law_316 : decode cL_law 316 = .ok (.aload_n 0, 1) := by decide +kernel
theorem dL_law_317 : decode cL_law 317 = .ok (.iload_n 3, 1) := by decide +kernel
theorem dL_law_318 : decode cL_law 318 = .ok (.iconst 1, 1) := by decide +kernel
theorem dL_law_319 : decode cL_law 319 = .ok (.iadd, 1) := by decide +kernel
theorem dL_law_320 : decode cL_law 320 = .ok (.iaload, 1) := by decide +kernel
theorem dL_law_321 : decode cL_law 321 = .ok (.aload_n 0, 1) := by decide +kernel
theorem dL_law_322 : decode cL_law 322 = .ok (.iload_n 3, 1) := by decide +kernel
theorem dL_law_323 : decode cL_law 323 = .ok (.iconst 2, 1) := by decide +kernel
theorem dL_law_324 : decode cL_law 324 = .ok (.iadd, 1) := by decide +kernel
theorem dL_law_325 : decode cL_law 325 = .ok (.iaload, 1) := by decide +kernel
theorem dL_law_326 : decode cL_law 326 = .ok (.invokevirtual 51, 3) := by decide +kernel
theorem dL_law_329 : decode cL_law 329 = .ok (.aload_n 2, 1) := by decide +kernel
theorem dL_law_330 : decode cL_law 330 = .ok (.aload_n 0, 1) := by decide +kernel
theorem dL_law_331 : decode cL_law 331 = .ok (.iload_n 3, 1) := by decide +kernel
theorem dL_law_332 : decode cL_law 332 = .ok (.iconst 1, 1) := by decide +kernel
theorem dL_law_333 : decode cL_law 333 = .ok (.iadd, 1) := by decide +kernel
theorem dL_law_334 : decode cL_law 334 = .ok (.iaload, 1) := by decide +kernel
theorem dL_law_335 : decode cL_law 335 = .ok (.aload_n 0, 1) := by decide +kernel
theorem dL_law_336 : decode cL_law 336 = .ok (.iload_n 3, 1) := by decide +kernel
theorem dL_law_337 : decode cL_law 337 = .ok (.iconst 2, 1) := by decide +kernel
theorem dL_law_338 : decode cL_law 338 = .ok (.iadd, 1) := by decide +kernel
theorem dL_law_339 : decode cL_law 339 = .ok (.iaload, 1) := by decide +kernel
theorem dL_law_340 : decode cL_law 340 = .ok (.invokevirtual 55, 3) := by decide +kernel
theorem dL_law_343 : decode cL_law 343 = .ok (.lcmp, 1) := by decide +kernel
theorem dL_law_344 : decode cL_law 344 = .ok (.ifCond .eq 82, 3) := by decide +kernel
theorem dL_law_347 : decode cL_law 347 = .ok (.iconst 0, 1) := by decide +kernel
theorem dL_law_348 : decode cL_law 348 = .ok (.ireturn, 1) := by decide +kernel
theorem dL_law_349 : decode cL_law 349 = .ok (.aload_n 1, 1) := by decide +kernel
theorem dL_law_350 : decode cL_law 350 = .ok (.aload_n 0, 1) := by decide +kernel
theorem dL_law_351 : decode cL_law 351 = .ok (.iload_n 3, 1) := by decide +kernel
theorem dL_law_352 : decode cL_law 352 = .ok (.iconst 1, 1) := by decide +kernel
theorem dL_law_353 : decode cL_law 353 = .ok (.iadd, 1) := by decide +kernel
theorem dL_law_354 : decode cL_law 354 = .ok (.iaload, 1) := by decide +kernel
theorem dL_law_355 : decode cL_law 355 = .ok (.aload_n 0, 1) := by decide +kernel
theorem dL_law_356 : decode cL_law 356 = .ok (.iload_n 3, 1) := by decide +kernel
theorem dL_law_357 : decode cL_law 357 = .ok (.iconst 2, 1) := by decide +kernel
theorem dL_law_358 : decode cL_law 358 = .ok (.iadd, 1) := by decide +kernel
theorem dL_law_359 : decode cL_law 359 = .ok (.iaload, 1) := by decide +kernel
theorem dL_law_360 : decode cL_law 360 = .ok (.invokevirtual 56, 3) := by decide +kernel
theorem dL_law_363 : decode cL_law 363 = .ok (.aload_n 2, 1) := by decide +kernel
theorem dL_law_364 : decode cL_law 364 = .ok (.aload_n 0, 1) := by decide +kernel
theorem dL_law_365 : decode cL_law 365 = .ok (.iload_n 3, 1) := by decide +kernel
theorem dL_law_366 : decode cL_law 366 = .ok (.iconst 1, 1) := by decide +kernel
theorem dL_law_367 : decode cL_law 367 = .ok (.iadd, 1) := by decide +kernel
theorem dL_law_368 : decode cL_law 368 = .ok (.iaload, 1) := by decide +kernel
theorem dL_law_369 : decode cL_law 369 = .ok (.aload_n 0, 1) := by decide +kernel
theorem dL_law_370 : decode cL_law 370 = .ok (.iload_n 3, 1) := by decide +kernel
theorem dL_law_371 : decode cL_law 371 = .ok (.iconst 2, 1) := by decide +kernel
theorem dL_law_372 : decode cL_law 372 = .ok (.iadd, 1) := by decide +kernel
theorem dL_law_373 : decode cL_law 373 = .ok (.iaload, 1) := by decide +kernel
theorem dL_law_374 : decode cL_law 374 = .ok (.invokevirtual 59, 3) := by decide +kernel
theorem dL_law_377 : decode cL_law 377 = .ok (.if_icmp .eq 49, 3) := by decide +kernel
theorem dL_law_380 : decode cL_law 380 = .ok (.iconst 0, 1) := by decide +kernel
theorem dL_law_381 : decode cL_law 381 = .ok (.ireturn, 1) := by decide +kernel
theorem dL_law_382 : decode cL_law 382 = .ok (.aload_n 1, 1) := by decide +kernel
theorem dL_law_383 : decode cL_law 383 = .ok (.aload_n 0, 1) := by decide +kernel
theorem dL_law_384 : decode cL_law 384 = .ok (.iload_n 3, 1) := by decide +kernel
theorem dL_law_385 : decode cL_law 385 = .ok (.iconst 1, 1) := by decide +kernel
theorem dL_law_386 : decode cL_law 386 = .ok (.iadd, 1) := by decide +kernel
theorem dL_law_387 : decode cL_law 387 = .ok (.iaload, 1) := by decide +kernel
theorem dL_law_388 : decode cL_law 388 = .ok (.aload_n 0, 1) := by decide +kernel
theorem dL_law_389 : decode cL_law 389 = .ok (.iload_n 3, 1) := by decide +kernel
theorem dL_law_390 : decode cL_law 390 = .ok (.iconst 2, 1) := by decide +kernel
theorem dL_law_391 : decode cL_law 391 = .ok (.iadd, 1) := by decide +kernel
theorem dL_law_392 : decode cL_law 392 = .ok (.iaload, 1) := by decide +kernel
theorem dL_law_393 : decode cL_law 393 = .ok (.aload_n 0, 1) := by decide +kernel
theorem dL_law_394 : decode cL_law 394 = .ok (.iload_n 3, 1) := by decide +kernel
theorem dL_law_395 : decode cL_law 395 = .ok (.iconst 3, 1) := by decide +kernel
theorem dL_law_396 : decode cL_law 396 = .ok (.iadd, 1) := by decide +kernel
theorem dL_law_397 : decode cL_law 397 = .ok (.iaload, 1) := by decide +kernel
theorem dL_law_398 : decode cL_law 398 = .ok (.invokevirtual 60, 3) := by decide +kernel
theorem dL_law_401 : decode cL_law 401 = .ok (.aload_n 2, 1) := by decide +kernel
theorem dL_law_402 : decode cL_law 402 = .ok (.aload_n 0, 1) := by decide +kernel
theorem dL_law_403 : decode cL_law 403 = .ok (.iload_n 3, 1) := by decide +kernel
theorem dL_law_404 : decode cL_law 404 = .ok (.iconst 1, 1) := by decide +kernel
theorem dL_law_405 : decode cL_law 405 = .ok (.iadd, 1) := by decide +kernel
theorem dL_law_406 : decode cL_law 406 = .ok (.iaload, 1) := by decide +kernel
theorem dL_law_407 : decode cL_law 407 = .ok (.aload_n 0, 1) := by decide +kernel
theorem dL_law_408 : decode cL_law 408 = .ok (.iload_n 3, 1) := by decide +kernel
theorem dL_law_409 : decode cL_law 409 = .ok (.iconst 2, 1) := by decide +kernel
theorem dL_law_410 : decode cL_law 410 = .ok (.iadd, 1) := by decide +kernel
theorem dL_law_411 : decode cL_law 411 = .ok (.iaload, 1) := by decide +kernel
theorem dL_law_412 : decode cL_law 412 = .ok (.aload_n 0, 1) := by decide +kernel
theorem dL_law_413 : decode cL_law 413 = .ok (.iload_n 3, 1) := by decide +kernel
theorem dL_law_414 : decode cL_law 414 = .ok (.iconst 3, 1) := by decide +kernel
theorem dL_law_415 : decode cL_law 415 = .ok (.iadd, 1) := by decide +kernel
theorem dL_law_416 : decode cL_law 416 = .ok (.iaload, 1) := by decide +kernel
theorem dL_law_417 : decode cL_law 417 = .ok (.invokevirtual 64, 3) := by decide +kernel
theorem dL_law_420 : decode cL_law 420 = .ok (.lcmp, 1) := by decide +kernel
theorem dL_law_421 : decode cL_law 421 = .ok (.ifCond .eq 5, 3) := by decide +kernel
theorem dL_law_424 : decode cL_law 424 = .ok (.iconst 0, 1) := by decide +kernel
theorem dL_law_425 : decode cL_law 425 = .ok (.ireturn, 1) := by decide +kernel
theorem dL_law_426 : decode cL_law 426 = .ok (.iinc 3 6, 3) := by decide +kernel
theorem dL_law_429 : decode cL_law 429 = .ok (.goto (-411), 3) := by decide +kernel
theorem dL_law_432 : decode cL_law 432 = .ok (.iconst 1, 1) := by decide +kernel
theorem dL_law_433 : decode cL_law 433 = .ok (.ireturn, 1) := by decide +kernel
end
section
/-! ===== Int32 by its bits: bt x i ===== -/
def bt (x : Int32) (i : Nat) : Bool := x.toBitVec.getLsbD i
theorem b_ext {x y : Int32} (h : ∀ i, i < 32 → bt x i = bt y i) : x = y := Int32.toBitVec_inj.mp (BitVec.eq_of_getLsbD_eq (fun i hi => h i hi))
theorem b_or (x y : Int32) (i : Nat) : bt (x ||| y) i = (bt x i || bt y i) := by unfold bt; rw [Int32.toBitVec_or, BitVec.getLsbD_or]
theorem b_and (x y : Int32) (i : Nat) : bt (x &&& y) i = (bt x i && bt y i) := by unfold bt; rw [Int32.toBitVec_and, BitVec.getLsbD_and]
theorem b_xor (x y : Int32) (i : Nat) : bt (x ^^^ y) i = (bt x i ^^ bt y i) := by unfold bt; rw [Int32.toBitVec_xor, BitVec.getLsbD_xor]
theorem b_big {x : Int32} {i : Nat} (h : 32 ≤ i) : bt x i = false := BitVec.getLsbD_of_ge _ _ h
theorem b_255 (i : Nat) : bt 255 i = decide (i < 8) := by
  rcases Nat.lt_or_ge i 32 with h | h
  · exact (by decide +kernel : ∀ i, i < 32 → bt 255 i = decide (i < 8)) i h
  · rw [b_big h, decide_eq_false (by omega)]
theorem b_65535 (i : Nat) : bt 65535 i = decide (i < 16) := by
  rcases Nat.lt_or_ge i 32 with h | h
  · exact (by decide +kernel : ∀ i, i < 32 → bt 65535 i = decide (i < 16)) i h
  · rw [b_big h, decide_eq_false (by omega)]
theorem b_m1 : ∀ i, i < 32 → bt (-1) i = true := by decide +kernel
theorem b_0 (i : Nat) : bt 0 i = false := BitVec.getLsbD_zero
theorem s_l : ∀ n, n < 32 → ((nI n &&& 31).toBitVec.smod 32).toNat = n := by decide +kernel
theorem s_u : ∀ n, n < 32 → (((nI n).toUInt32 &&& Int32.toUInt32 31).toBitVec % 32).toNat = n := by decide +kernel
theorem b_shl (n : Nat) (hn : n < 32) (x : Int32) {i : Nat} (hi : i < 32) : bt (x <<< (nI n &&& 31)) i = (decide (n ≤ i) && bt x (i - n)) := by
  unfold bt
  rw [Int32.toBitVec_shiftLeft]
  show (x.toBitVec <<< ((nI n &&& 31).toBitVec.smod 32).toNat).getLsbD i = _
  rw [s_l n hn, BitVec.getLsbD_shiftLeft]
  rcases Nat.lt_or_ge i n with h | h
  · simp [h, Nat.not_le.mpr h]
  · simp [hi, h, Nat.not_lt.mpr h]
theorem b_ushr (n : Nat) (hn : n < 32) (x : Int32) (i : Nat) : bt ((x.toUInt32 >>> ((nI n).toUInt32 &&& Int32.toUInt32 31)).toInt32) i = bt x (n + i) := by
  show (x.toUInt32 >>> ((nI n).toUInt32 &&& Int32.toUInt32 31)).toBitVec.getLsbD i = x.toUInt32.toBitVec.getLsbD (n + i)
  rw [UInt32.toBitVec_shiftRight]
  show (x.toUInt32.toBitVec >>> (((nI n).toUInt32 &&& Int32.toUInt32 31).toBitVec % 32).toNat).getLsbD i = _
  rw [s_u n hn, BitVec.getLsbD_ushiftRight]
theorem b_sshr (n : Nat) (hn : n < 32) (x : Int32) {i : Nat} (hi : i < 32) : bt (x >>> (nI n &&& 31)) i = if n + i < 32 then bt x (n + i) else bt x 31 := by
  unfold bt
  rw [Int32.toBitVec_shiftRight]
  show (x.toBitVec.sshiftRight ((nI n &&& 31).toBitVec.smod 32).toNat).getLsbD i = _
  rw [s_l n hn, BitVec.getLsbD_sshiftRight, BitVec.msb_eq_getLsbD_last]
  simp [hi]
theorem b_shl8 (x : Int32) {i : Nat} (hi : i < 32) : bt (x <<< ((8 : Int32) &&& 31)) i = (decide (8 ≤ i) && bt x (i - 8)) := b_shl 8 (by omega) x hi
theorem b_shl16 (x : Int32) {i : Nat} (hi : i < 32) : bt (x <<< ((16 : Int32) &&& 31)) i = (decide (16 ≤ i) && bt x (i - 16)) := b_shl 16 (by omega) x hi
theorem b_shl24 (x : Int32) {i : Nat} (hi : i < 32) : bt (x <<< ((24 : Int32) &&& 31)) i = (decide (24 ≤ i) && bt x (i - 24)) := b_shl 24 (by omega) x hi
theorem b_sshr8 (x : Int32) {i : Nat} (hi : i < 32) : bt (x >>> ((8 : Int32) &&& 31)) i = if 8 + i < 32 then bt x (8 + i) else bt x 31 := b_sshr 8 (by omega) x hi
/-! ===== lN n to 2^64: shifts, and, or, masks, one bit ===== -/
theorem wb_tb (n : Nat) : (lN n).toBitVec = BitVec.ofNat 64 n := rfl
theorem wb_inj {a b : Int64} (h : a.toBitVec = b.toBitVec) : a = b := Int64.toBitVec_inj.mp h
theorem wb_tn {n : Nat} (h : n < 2 ^ 64) : (lN n).toBitVec.toNat = n := by rw [wb_tb, BitVec.toNat_ofNat, Nat.mod_eq_of_lt h]
theorem wb_of (x : Int64) : ∃ n, n < 2 ^ 64 ∧ x = lN n := ⟨x.toBitVec.toNat, x.toBitVec.isLt, wb_inj (by rw [wb_tb]; simp)⟩
theorem wb_of32 (x : Int32) : ∃ n, n < 2 ^ 32 ∧ x = nI n := ⟨x.toBitVec.toNat, x.toBitVec.isLt, Int32.toBitVec_inj.mp (by show _ = BitVec.ofNat 32 _; simp)⟩
theorem wb_c : ∀ k, k < 64 → ((nI k).toInt64 &&& 63) = lN k := by decide +kernel
theorem wb_cu : ∀ k, k < 64 → ((nI k).toInt64.toUInt64 &&& Int64.toUInt64 63) = UInt64.ofNat k := by decide +kernel
theorem wb_sm : ∀ k, k < 64 → (BitVec.ofNat 64 k).smod 64 = BitVec.ofNat 64 k := by decide +kernel
theorem wb_pw {a b : Nat} (h : a ≤ b) : 2 ^ b = 2 ^ a * 2 ^ (b - a) := by rw [← Nat.pow_add]; congr 1; omega
theorem wb_lt2 {a b : Nat} (h : a < b) : 2 ^ a < 2 ^ b := Nat.pow_lt_pow_right (by decide) h
theorem wb_mod (n : Nat) : lN n = lN (n % 2 ^ 64) := wb_inj (by rw [wb_tb, wb_tb]; apply BitVec.eq_of_toNat_eq; rw [BitVec.toNat_ofNat, BitVec.toNat_ofNat, Nat.mod_mod])
theorem wb_shr {n k : Nat} (hn : n < 2 ^ 64) (hk : k < 64) : ((lN n).toUInt64 >>> ((nI k).toInt64.toUInt64 &&& Int64.toUInt64 63)).toInt64 = lN (n / 2 ^ k) := by
  rw [wb_cu k hk]
  apply wb_inj
  apply BitVec.eq_of_toNat_eq
  show ((lN n).toUInt64 >>> UInt64.ofNat k).toNat = (BitVec.ofNat 64 _).toNat
  have h1 : (UInt64.ofNat k).toNat = k := by
    show (BitVec.ofNat 64 k).toNat = k
    rw [BitVec.toNat_ofNat, Nat.mod_eq_of_lt (by omega)]
  have h2 : (lN n).toUInt64.toNat = n := wb_tn hn
  rw [UInt64.toNat_shiftRight, h1, h2, Nat.mod_eq_of_lt hk, Nat.shiftRight_eq_div_pow, BitVec.toNat_ofNat, Nat.mod_eq_of_lt (Nat.lt_of_le_of_lt (Nat.div_le_self _ _) hn)]
theorem wb_shl (n : Nat) {k : Nat} (hk : k < 64) : lN n <<< ((nI k).toInt64 &&& 63) = lN (n * 2 ^ k) := by
  rw [wb_c k hk]
  apply wb_inj
  rw [Int64.toBitVec_shiftLeft, wb_tb, wb_tb, wb_tb, wb_sm k hk]
  apply BitVec.eq_of_toNat_eq
  rw [BitVec.shiftLeft_eq', BitVec.toNat_shiftLeft, BitVec.toNat_ofNat, BitVec.toNat_ofNat, BitVec.toNat_ofNat, Nat.mod_eq_of_lt (show k < 2 ^ 64 by omega), Nat.shiftLeft_eq, Nat.mul_mod, Nat.mod_mod, ← Nat.mul_mod]
theorem wb_and {a b : Nat} (ha : a < 2 ^ 64) (hb : b < 2 ^ 64) : lN a &&& lN b = lN (a &&& b) := by
  apply wb_inj
  rw [Int64.toBitVec_and, wb_tb, wb_tb, wb_tb]
  apply BitVec.eq_of_toNat_eq
  rw [BitVec.toNat_and, BitVec.toNat_ofNat, BitVec.toNat_ofNat, BitVec.toNat_ofNat, Nat.mod_eq_of_lt ha, Nat.mod_eq_of_lt hb, Nat.mod_eq_of_lt (Nat.and_lt_two_pow _ hb)]
theorem wb_or {a b : Nat} (ha : a < 2 ^ 64) (hb : b < 2 ^ 64) : lN a ||| lN b = lN (a ||| b) := by
  apply wb_inj
  rw [Int64.toBitVec_or, wb_tb, wb_tb, wb_tb]
  apply BitVec.eq_of_toNat_eq
  rw [BitVec.toNat_or, BitVec.toNat_ofNat, BitVec.toNat_ofNat, BitVec.toNat_ofNat, Nat.mod_eq_of_lt ha, Nat.mod_eq_of_lt hb, Nat.mod_eq_of_lt (Nat.or_lt_two_pow ha hb)]
theorem wb_mask {n k : Nat} (hn : n < 2 ^ 64) (hk : k < 64) : lN n &&& lN (2 ^ k - 1) = lN (n % 2 ^ k) := by
  rw [wb_and hn (by have := wb_lt2 hk; omega), Nat.and_two_pow_sub_one_eq_mod]
theorem wb_a1 {n : Nat} (hn : n < 2 ^ 64) : lN n &&& 1 = lN (n % 2) := wb_mask (k := 1) hn (by decide)
theorem wb_bit {n k : Nat} (hn : n < 2 ^ 64) (hk : k < 64) : ((lN n).toUInt64 >>> ((nI k).toInt64.toUInt64 &&& Int64.toUInt64 63)).toInt64 &&& 1 = lN (n / 2 ^ k % 2) := by
  rw [wb_shr hn hk, wb_a1 (Nat.lt_of_le_of_lt (Nat.div_le_self _ _) hn)]
theorem wb_xor {q k : Nat} (hk : k < 63) (h : 2 ^ k ≤ q) (h2 : q < 2 ^ (k + 1)) : lN q ^^^ lN (2 ^ k) = lN (q - 2 ^ k) := by
  obtain ⟨r, rfl⟩ : ∃ r, q = 2 ^ k + r := ⟨q - 2 ^ k, by omega⟩
  have hr : r < 2 ^ k := by rw [Nat.pow_succ] at h2; omega
  have hx : (2 ^ k + r) ^^^ 2 ^ k = r := by
    apply Nat.eq_of_testBit_eq
    intro i
    rw [Nat.testBit_xor, Nat.testBit_two_pow]
    rcases Nat.lt_trichotomy i k with h | h | h
    · rw [Nat.testBit_two_pow_add_gt h]
      simp [show ¬ k = i by omega]
    · subst h
      rw [Nat.testBit_two_pow_add_eq]
      simp
    · have a1 : 2 ^ (k + 1) ≤ 2 ^ i := Nat.pow_le_pow_right (by decide) h
      rw [Nat.testBit_lt_two_pow (show 2 ^ k + r < 2 ^ i by omega), Nat.testBit_lt_two_pow (show r < 2 ^ i by omega)]
      simp [show ¬ k = i by omega]
  have b1 := wb_lt2 (show k + 1 < 64 by omega)
  have b2 := wb_lt2 (show k < 64 by omega)
  apply wb_inj
  rw [Int64.toBitVec_xor, wb_tb, wb_tb, wb_tb]
  apply BitVec.eq_of_toNat_eq
  rw [BitVec.toNat_xor, BitVec.toNat_ofNat, BitVec.toNat_ofNat, BitVec.toNat_ofNat, Nat.mod_eq_of_lt (by omega : 2 ^ k + r < 2 ^ 64), Nat.mod_eq_of_lt b2, hx, Nat.add_sub_cancel_left, Nat.mod_eq_of_lt (by omega)]
/-! ===== lN: masks, 'or' of parts that don't overlap is a sum ===== -/
theorem u_tn {n : Nat} (h : n < 2 ^ 64) : (UInt64.ofNat n).toNat = n := Nat.mod_eq_of_lt h
theorem g_and {a b c : Nat} (ha : a < 2 ^ 64) (hb : b < 2 ^ 64) (hc : a &&& b = c) : lN a &&& lN b = lN c := by
  subst hc
  have h : UInt64.ofNat a &&& UInt64.ofNat b = UInt64.ofNat (a &&& b) := UInt64.toNat_inj.mp (by rw [UInt64.toNat_and, u_tn ha, u_tn hb, u_tn (Nat.and_lt_two_pow a hb)])
  have h2 := congrArg UInt64.toInt64 h
  exact h2
theorem g_and1 {a : Nat} (ha : a < 2 ^ 64) : lN a &&& 1 = lN (a % 2) := g_and (b := 1) ha (by decide) (Nat.and_two_pow_sub_one_eq_mod a 1)
theorem g_mask {a s p : Nat} (hp : 2 ^ s = p) (hs : s < 64) (ha : a < 2 ^ 64) : lN a &&& lN (p - 1) = lN (a % p) := by
  subst hp
  have := Nat.pow_lt_pow_right (show 1 < 2 by decide) hs
  exact g_and ha (by omega) (Nat.and_two_pow_sub_one_eq_mod a s)
theorem g_or {k p a b : Nat} (hp : 2 ^ k = p) (ha : a < p) (h : b * p + a < 2 ^ 64) : lN (b * p) ||| lN a = lN (b * p + a) := by
  subst hp
  have h1 : b * 2 ^ k ||| a = b * 2 ^ k + a := by rw [← Nat.shiftLeft_eq, Nat.shiftLeft_add_eq_or_of_lt ha]
  have h3 : UInt64.ofNat (b * 2 ^ k) ||| UInt64.ofNat a = UInt64.ofNat (b * 2 ^ k + a) := UInt64.toNat_inj.mp (by rw [UInt64.toNat_or, u_tn (by omega), u_tn (by omega), u_tn h, h1])
  have h2 := congrArg UInt64.toInt64 h3
  exact h2
theorem g_or' {k p a b : Nat} (hp : 2 ^ k = p) (ha : a < p) (h : a + b * p < 2 ^ 64) : lN a ||| lN (b * p) = lN (a + b * p) := by
  rw [Int64.or_comm, g_or hp ha (by omega), Nat.add_comm]
theorem g_ushr {a k p : Nat} {y : UInt64} (hy : y = UInt64.ofNat k) (hk : k < 64) (hp : 2 ^ k = p) (ha : a < 2 ^ 64) : ((lN a).toUInt64 >>> y).toInt64 = lN (a / p) := by
  subst hy hp
  have h : UInt64.ofNat a >>> UInt64.ofNat k = UInt64.ofNat (a / 2 ^ k) := UInt64.toNat_inj.mp (by rw [UInt64.toNat_shiftRight, u_tn ha, u_tn (by omega), u_tn (Nat.lt_of_le_of_lt (Nat.div_le_self _ _) ha), Nat.mod_eq_of_lt hk, Nat.shiftRight_eq_div_pow])
  have h2 := congrArg UInt64.toInt64 h
  exact h2
theorem g_shl {a k p : Nat} {y : Int64} (hy : y.toBitVec.smod 64 = BitVec.ofNat 64 k) (hk : k < 64) (hp : 2 ^ k = p) (ha : a < 2 ^ 64) : lN a <<< y = lN (a * p) := by
  subst hp
  apply Int64.toBitVec_inj.mp
  rw [Int64.toBitVec_shiftLeft, hy]
  apply BitVec.eq_of_toNat_eq
  have hb : (lN a).toBitVec.toNat = a := Nat.mod_eq_of_lt ha
  have hk' : (BitVec.ofNat 64 k).toNat = k := Nat.mod_eq_of_lt (by omega)
  have h : ((lN a).toBitVec <<< BitVec.ofNat 64 k).toNat = (a * 2 ^ k) % 2 ^ 64 := by simp only [BitVec.shiftLeft_eq', BitVec.toNat_shiftLeft, hb, hk', Nat.shiftLeft_eq]
  exact h
/-! ===== a byte read unsigned ===== -/
theorem bp_b (x : Int32) : x.toInt8.toInt32 &&& 255 = x &&& 255 := by
  apply Int32.toBitVec_inj.mp
  rw [Int32.toBitVec_and, Int32.toBitVec_and, Int8.toBitVec_toInt32, Int32.toBitVec_toInt8]
  apply BitVec.eq_of_getLsbD_eq
  intro i hi
  rw [BitVec.getLsbD_and, BitVec.getLsbD_and]
  have hm : ∀ i < 32, 8 ≤ i → (255 : Int32).toBitVec.getLsbD i = false := by decide
  rcases Nat.lt_or_ge i 8 with z | z
  · rw [BitVec.getLsbD_signExtend, BitVec.getLsbD_signExtend, if_pos z, if_pos hi]
    simp only [z, hi, decide_true, Bool.true_and]
  · rw [hm i hi z]; simp
/-! ===== LongRowDesk: the pure values (ours) ===== -/
/-- n - 1 as an int: -1 at 0 (a loop that counts down) -/
def ld_dn (n : Nat) : Int32 := nI n + (-1)
theorem ld_dn0 : ld_dn 0 = -1 := by decide +kernel
theorem ld_dns (n : Nat) : ld_dn (n + 1) = nI n := pk_m1 n
theorem ld_inc (n : Nat) : nI n + Int32.ofInt 1 = nI (n + 1) := nI_1 n
theorem ld_dec (n : Nat) : nI n + Int32.ofInt (-1) = ld_dn n := rfl
theorem ld_sub1 (n : Nat) : nI n - nI 1 = ld_dn n := by
  show nI n - 1 = nI n + (-1)
  grind
theorem ld_dn_toInt {n : Nat} (h : n < 2 ^ 31) : (ld_dn n).toInt = (n : Int) - 1 := by
  cases n with
  | zero => decide +kernel
  | succ k => rw [ld_dns, nI_toInt (by omega)]; omega
theorem ld_dn_le {a i : Nat} (ha : a < 2 ^ 31) (hi : i < 2 ^ 31) : ld_dn a ≤ nI i ↔ a ≤ i + 1 := by
  rw [Int32.le_iff_toInt_le, ld_dn_toInt ha, nI_toInt hi]
  omega
theorem ld_dn_lt {a i : Nat} (ha : a < 2 ^ 31) (hi : i < 2 ^ 31) : ld_dn a < nI i ↔ a ≤ i := by
  rw [Int32.lt_iff_toInt_lt, ld_dn_toInt ha, nI_toInt hi]
  omega
theorem ld_dn_neg {a : Nat} (ha : a < 2 ^ 31) : ld_dn a < 0 ↔ a = 0 := by
  rw [show (0 : Int32) = nI 0 from rfl, ld_dn_lt ha (by decide)]
  omega
/-! places -/
def ld_pl (x : Int32) : Nat := x.toBitVec.toNat % 2 ^ 31 % 12
theorem ld_pl_lt (x : Int32) : ld_pl x < 12 := Nat.mod_lt _ (by decide)
theorem ld_pl_eq (x : Int32) : (x &&& 2147483647) - (x &&& 2147483647) / nI 12 * nI 12 = nI (ld_pl x) := by
  rw [pk_and x 31 (by decide +kernel), pk_rem (Nat.mod_lt _ (by decide)) (by decide) (by decide)]
  rfl
def ld_fr (x : Int32) : Nat := x.toBitVec.toNat % 2 ^ 31 % 13
theorem ld_fr_le (x : Int32) : ld_fr x ≤ 12 := by
  have := Nat.mod_lt (x.toBitVec.toNat % 2 ^ 31) (show 0 < 13 by decide)
  unfold ld_fr
  omega
theorem ld_fr_eq (x : Int32) : (x &&& 2147483647) - (x &&& 2147483647) / nI 13 * nI 13 = nI (ld_fr x) := by
  rw [pk_and x 31 (by decide +kernel), pk_rem (Nat.mod_lt _ (by decide)) (by decide) (by decide)]
  rfl
def ld_tk (a : Nat) (x : Int32) : Nat := a + x.toBitVec.toNat % 2 ^ 31 % (13 - a)
theorem ld_tk_in {a : Nat} (h : a ≤ 12) (x : Int32) : a ≤ ld_tk a x ∧ ld_tk a x ≤ 12 := by
  have := Nat.mod_lt (x.toBitVec.toNat % 2 ^ 31) (show 0 < 13 - a by omega)
  unfold ld_tk
  omega
theorem ld_13 {a : Nat} (h : a ≤ 12) : nI 13 - nI a = nI (13 - a) := pk_sub (by omega)
theorem ld_13ne {a : Nat} (h : a ≤ 12) : ¬ nI (13 - a) = 0 := nI_ne0 (by omega) (by omega)
theorem ld_tk_eq {a : Nat} (h : a ≤ 12) (x : Int32) : nI a + ((x &&& 2147483647) - (x &&& 2147483647) / nI (13 - a) * nI (13 - a)) = nI (ld_tk a x) := by
  rw [pk_and x 31 (by decide +kernel), pk_rem (Nat.mod_lt _ (by decide)) (by omega) (by omega), nI_add]
  rfl
theorem ld_12ne : ¬ nI 12 = 0 := by decide +kernel
theorem ld_13ne0 : ¬ nI 13 = 0 := by decide +kernel
/-! two ints side by side -/
def ld_wd (h l : Int32) : Int64 := lN (h.toBitVec.toNat * 2 ^ 32 + l.toBitVec.toNat)
theorem ld_se (x : Int32) : ∃ c : Nat, x.toInt64 = lN (x.toBitVec.toNat + c * 2 ^ 32) ∧ x.toBitVec.toNat + c * 2 ^ 32 < 2 ^ 64 := by
  have hx := x.toBitVec.isLt
  refine ⟨if x.toBitVec.msb then 2 ^ 32 - 1 else 0, ?_, ?_⟩
  · apply wb_inj
    apply BitVec.eq_of_toNat_eq
    rw [wb_tb]
    show (x.toBitVec.signExtend 64).toNat = _
    rw [BitVec.toNat_signExtend, BitVec.toNat_setWidth, BitVec.toNat_ofNat, Nat.mod_eq_of_lt (by omega : x.toBitVec.toNat < 2 ^ 64)]
    split <;> omega
  · split <;> omega
theorem ld_lo32 (n c : Nat) : lN ((n + c * 2 ^ 32) * 2 ^ 32) = lN (n * 2 ^ 32) := by
  rw [wb_mod, wb_mod (n * 2 ^ 32)]
  exact congrArg lN (by omega)
theorem ld_wd_eq (h l : Int32) : (h.toInt64 <<< ((nI 32).toInt64 &&& 63)) ||| (l.toInt64 &&& 4294967295) = ld_wd h l := by
  obtain ⟨c, e1, b1⟩ := ld_se h
  obtain ⟨d, e2, b2⟩ := ld_se l
  have hl := l.toBitVec.isLt
  have hh := h.toBitVec.isLt
  rw [e1, wb_shl _ (by decide), e2, show (4294967295 : Int64) = lN (2 ^ 32 - 1) from by decide +kernel, wb_mask b2 (by decide), ld_lo32, show (l.toBitVec.toNat + d * 2 ^ 32) % 2 ^ 32 = l.toBitVec.toNat by omega]
  exact g_or (k := 32) rfl hl (by omega)
/-- a shift right, then some low bits -/
theorem ld_shm (x : Int32) {s k : Nat} (h : s + k ≤ 32) (hs : s < 32) : (x >>> (nI s &&& 31)).toBitVec.toNat % 2 ^ k = x.toBitVec.toNat / 2 ^ s % 2 ^ k := by
  apply Nat.eq_of_testBit_eq
  intro i
  rw [Nat.testBit_mod_two_pow, Nat.testBit_mod_two_pow, Nat.testBit_div_two_pow]
  by_cases hi : i < k
  · have e := b_sshr s hs x (i := i) (by omega)
    rw [if_pos (by omega)] at e
    have e2 : (x >>> (nI s &&& 31)).toBitVec.toNat.testBit i = x.toBitVec.toNat.testBit (s + i) := e
    rw [e2, Nat.add_comm s i]
  · simp [hi]
theorem ld_shb (x : Int32) {s : Nat} (h : s ≤ 24) : (x >>> (nI s &&& 31)) &&& nI 255 = nI (x.toBitVec.toNat / 2 ^ s % 256) :=
  (pk_and _ 8 (by decide +kernel)).trans (congrArg nI (ld_shm x (by omega) (by omega)))
theorem ld_bitk (x : Int32) {k : Nat} (hk : k < 32) : (x >>> (nI k &&& 31)) &&& nI 1 = nI (x.toBitVec.toNat / 2 ^ k % 2) :=
  (pk_and _ 1 (by decide +kernel)).trans (congrArg nI (ld_shm x (by omega) hk))
/-- the reference's way to two ints side by side: bit by bit -/
def ld_wn (a b : Nat) : Nat → Nat
  | 0 => a
  | k + 1 => 2 * ld_wn a b k + b / 2 ^ (31 - k) % 2
theorem ld_wn_eq {a b : Nat} (hb : b < 2 ^ 32) : ∀ k : Nat, k ≤ 32 → ld_wn a b k = a * 2 ^ k + b / 2 ^ (32 - k)
  | 0, _ => by
    show a = a * 2 ^ 0 + b / 2 ^ 32
    rw [Nat.div_eq_of_lt hb]
    omega
  | k + 1, hk => by
    have e : 2 ^ (32 - k) = 2 ^ (31 - k) * 2 := by rw [← Nat.pow_succ]; exact congrArg (2 ^ ·) (by omega)
    rw [ld_wn, ld_wn_eq hb k (by omega), e, ← Nat.div_div_eq_div_mul, show 32 - (k + 1) = 31 - k by omega, Nat.pow_succ, ← Nat.mul_assoc]
    generalize b / 2 ^ (31 - k) = q
    generalize a * 2 ^ k = r
    omega
theorem ld_wn_step (a b k : Nat) (hk : k < 32) : (2 : Int64) * lN (ld_wn a b (31 - k)) + (nI (b / 2 ^ k % 2)).toInt64 = lN (ld_wn a b (32 - k)) := by
  rw [nI_l (Nat.lt_of_lt_of_le (Nat.mod_lt _ (by decide)) (by decide)), show (2 : Int64) = lN 2 from rfl, lN_mul, lN_add, show 32 - k = (31 - k) + 1 by omega, ld_wn, show 31 - (31 - k) = k by omega]
theorem ld_wn_end (h l : Int32) (c : Nat) : lN (ld_wn (h.toBitVec.toNat + c * 2 ^ 32) l.toBitVec.toNat 32) = ld_wd h l := by
  have hl := l.toBitVec.isLt
  rw [ld_wn_eq hl 32 (by omega), show l.toBitVec.toNat / 2 ^ (32 - 32) = l.toBitVec.toNat by simp, ld_wd, wb_mod, wb_mod (h.toBitVec.toNat * 2 ^ 32 + l.toBitVec.toNat)]
  exact congrArg lN (by omega)
/-! eight bytes -/
def ld_on (a b : Nat) : Nat → Nat
  | 0 => 0
  | k + 1 => 256 * ld_on a b k + (if k < 4 then a else b) / 2 ^ (24 - 8 * (k % 4)) % 256
theorem ld_on_8 {a b : Nat} (ha : a < 2 ^ 32) (hb : b < 2 ^ 32) : ld_on a b 8 = a * 2 ^ 32 + b := by
  simp only [ld_on]
  simp
  omega
theorem ld_on_step (a b k n : Nat) (hn : n < 256) (e : (if k < 4 then a else b) / 2 ^ (24 - 8 * (k % 4)) % 256 = n) : (256 : Int64) * lN (ld_on a b k) + (nI n).toInt64 = lN (ld_on a b (k + 1)) := by
  rw [nI_l (by omega), show (256 : Int64) = lN 256 from rfl, lN_mul, lN_add, ld_on, e]
theorem ld_by8 (y : Int32) : y.toInt64 &&& 255 = lN (y.toBitVec.toNat % 256) := by
  obtain ⟨c, e, b⟩ := ld_se y
  rw [e, show (255 : Int64) = lN (2 ^ 8 - 1) from by decide +kernel, wb_mask b (by decide)]
  exact congrArg lN (by omega)
theorem ld_or {a b r : Nat} (k : Nat) (ha : a % 2 ^ k = 0) (hb : b < 2 ^ k) (hs : a + b < 2 ^ 64) (hr : a + b = r) : lN a ||| lN b = lN r := by
  have e : a / 2 ^ k * 2 ^ k = a := by
    have := Nat.div_add_mod' a (2 ^ k)
    rw [ha, Nat.add_zero] at this
    exact this
  subst hr
  have h := g_or (k := k) (b := a / 2 ^ k) rfl hb (by rw [e]; exact hs)
  rwa [e] at h
theorem ld_i8m (z : Int32) : z.toInt8.toInt32.toBitVec.toNat % 256 = z.toBitVec.toNat % 256 := by
  have h := bp_b z
  rw [pk_and _ 8 (by decide +kernel), pk_and z 8 (by decide +kernel)] at h
  have h2 := congrArg (fun q : Int32 => q.toBitVec.toNat) h
  rwa [pk_tn (Nat.lt_of_lt_of_le (Nat.mod_lt _ (by decide)) (by decide)), pk_tn (Nat.lt_of_lt_of_le (Nat.mod_lt _ (by decide)) (by decide))] at h2
theorem ld_byte (x : Int32) {s : Nat} (h : s ≤ 24) : (x >>> (nI s &&& 31)).toInt8.toInt32.toBitVec.toNat % 256 = x.toBitVec.toNat / 2 ^ s % 256 :=
  (ld_i8m _).trans (ld_shm x (k := 8) (by omega) (by omega))
def ld_fb (q0 q1 q2 q3 q4 q5 q6 q7 : Nat) : Nat := q0 * 2 ^ 56 + q1 * 2 ^ 48 + q2 * 2 ^ 40 + q3 * 2 ^ 32 + q4 * 2 ^ 24 + q5 * 2 ^ 16 + q6 * 2 ^ 8 + q7
theorem ld_fb_wd (a b : Int32) : lN (ld_fb ((a >>> (nI 24 &&& 31)).toInt8.toInt32.toBitVec.toNat % 256) ((a >>> (nI 16 &&& 31)).toInt8.toInt32.toBitVec.toNat % 256) ((a >>> (nI 8 &&& 31)).toInt8.toInt32.toBitVec.toNat % 256) (a.toInt8.toInt32.toBitVec.toNat % 256) ((b >>> (nI 24 &&& 31)).toInt8.toInt32.toBitVec.toNat % 256) ((b >>> (nI 16 &&& 31)).toInt8.toInt32.toBitVec.toNat % 256) ((b >>> (nI 8 &&& 31)).toInt8.toInt32.toBitVec.toNat % 256) (b.toInt8.toInt32.toBitVec.toNat % 256)) = ld_wd a b := by
  rw [ld_byte a (by omega), ld_byte a (by omega), ld_byte a (by omega), ld_i8m a, ld_byte b (by omega), ld_byte b (by omega), ld_byte b (by omega), ld_i8m b]
  have ha := a.toBitVec.isLt
  have hb := b.toBitVec.isLt
  unfold ld_wd ld_fb
  exact congrArg lN (by omega)
/-! a byte of a long -/
def ld_b8 (v : Int64) (t : Nat) : Nat := v.toBitVec.toNat / 2 ^ (56 - 8 * t) % 256
theorem ld_b8_lt (v : Int64) (t : Nat) : ld_b8 v t < 256 := Nat.mod_lt _ (by decide)
theorem ld_sL : ∀ n, n < 64 → (((nI n).toInt64 &&& 63).toBitVec.smod 64).toNat = n := by decide +kernel
theorem ld_lsshr (n : Nat) (hn : n < 64) (x : Int64) {i : Nat} (hi : n + i < 64) : (x >>> ((nI n).toInt64 &&& 63)).toBitVec.getLsbD i = x.toBitVec.getLsbD (n + i) := by
  rw [Int64.toBitVec_shiftRight]
  show (x.toBitVec.sshiftRight (((nI n).toInt64 &&& 63).toBitVec.smod 64).toNat).getLsbD i = _
  rw [ld_sL n hn, BitVec.getLsbD_sshiftRight]
  simp [show i < 64 by omega, hi]
theorem ld_and255 (y : Int64) : y &&& 255 = lN (y.toBitVec.toNat % 256) := by
  obtain ⟨n, hn, e⟩ := wb_of y
  subst e
  rw [show (255 : Int64) = lN (2 ^ 8 - 1) from by decide +kernel, wb_mask hn (by decide), wb_tn hn]
theorem ld_bits8 {X V s n : Nat} (h : ∀ j, j < n → X.testBit j = V.testBit (j + s)) (hn : 8 ≤ n) : X % 256 = V / 2 ^ s % 256 := by
  show X % 2 ^ 8 = V / 2 ^ s % 2 ^ 8
  apply Nat.eq_of_testBit_eq
  intro i
  rw [Nat.testBit_mod_two_pow, Nat.testBit_mod_two_pow, Nat.testBit_div_two_pow]
  by_cases hi : i < 8
  · rw [h i (by omega)]
  · simp [hi]
/-- a value that is v shifted, as far as its low 8 * i bits go -/
def ld_sh (v x : Int64) (i : Nat) : Prop := ∀ j : Nat, j < 8 * i → x.toBitVec.getLsbD j = v.toBitVec.getLsbD (j + 8 * (8 - i))
theorem ld_sh_0 (v : Int64) : ld_sh v v 8 := fun j _ => by rw [Nat.sub_self, Nat.mul_zero, Nat.add_zero]
theorem ld_sh_s {v x : Int64} {i : Nat} (hi : i < 8) (h : ld_sh v x (i + 1)) : ld_sh v (x >>> ((nI 8).toInt64 &&& 63)) i := by
  intro j hj
  rw [ld_lsshr 8 (by decide) x (by omega), h (8 + j) (by omega)]
  exact congrArg v.toBitVec.getLsbD (by omega)
theorem ld_sh_b {v x : Int64} {i : Nat} (hi : i < 8) (h : ld_sh v x (i + 1)) : x.toBitVec.toNat % 256 = ld_b8 v i := by
  have h1 := ld_bits8 (X := x.toBitVec.toNat) (V := v.toBitVec.toNat) (s := 8 * (8 - (i + 1))) (n := 8 * (i + 1)) (fun j hj => h j hj) (by omega)
  rw [h1, ld_b8, show 8 * (8 - (i + 1)) = 56 - 8 * i by omega]
/-- what the copy of a byte into a byte array holds -/
theorem ld_sh_put {v x : Int64} {i : Nat} (hi : i < 8) (h : ld_sh v x (i + 1)) : (x &&& 255).toInt32.toInt8.toInt32 &&& nI 255 = nI (ld_b8 v i) := by
  have e : (nI 255 : Int32) = 255 := rfl
  rw [e, bp_b, ld_and255, lN_i, ld_sh_b hi h]
  rw [pk_andN (Nat.lt_of_lt_of_le (ld_b8_lt v i) (by decide)) 8 (by decide +kernel)]
  exact congrArg nI (Nat.mod_eq_of_lt (ld_b8_lt v i))
/-- what the reference answers for a byte -/
theorem ld_let (v : Int64) {t : Nat} (ht : t < 8) : ((v >>> ((nI (56 - 8 * t)).toInt64 &&& 63)) &&& 255).toInt32 = nI (ld_b8 v t) := by
  rw [ld_and255, lN_i]
  refine congrArg nI ?_
  refine (ld_bits8 (V := v.toBitVec.toNat) (s := 56 - 8 * t) (n := 8) (fun j hj => ?_) (Nat.le_refl 8)).trans rfl
  have e := ld_lsshr (56 - 8 * t) (by omega) v (i := j) (by omega)
  rw [Nat.add_comm] at e
  exact e
theorem ld_and7 (x : Int32) : x &&& nI 7 = nI (x.toBitVec.toNat % 8) := pk_and x 3 (by decide +kernel)
theorem ld_56 (x : Int32) : nI 56 - nI 8 * (x &&& nI 7) = nI (56 - 8 * (x.toBitVec.toNat % 8)) := by
  rw [ld_and7, pk_mul, pk_sub (by omega)]
/-! the greatest, the least -/
def ld_mx (f : Nat → Int64) : Nat → Int64
  | 0 => f 0
  | i + 1 => if ld_mx f i < f i then f i else ld_mx f i
def ld_mn (f : Nat → Int64) : Nat → Int64
  | 0 => f 0
  | i + 1 => if f i < ld_mn f i then f i else ld_mn f i
theorem ld_mx1 (f : Nat → Int64) : ld_mx f 1 = f 0 := by simp [ld_mx]
theorem ld_mn1 (f : Nat → Int64) : ld_mn f 1 = f 0 := by simp [ld_mn]
theorem ld_mx_t {f : Nat → Int64} {i : Nat} (h : ld_mx f i < f i) : ld_mx f (i + 1) = f i := by rw [ld_mx, if_pos h]
theorem ld_mx_f {f : Nat → Int64} {i : Nat} (h : ¬ ld_mx f i < f i) : ld_mx f (i + 1) = ld_mx f i := by rw [ld_mx, if_neg h]
theorem ld_mn_t {f : Nat → Int64} {i : Nat} (h : f i < ld_mn f i) : ld_mn f (i + 1) = f i := by rw [ld_mn, if_pos h]
theorem ld_mn_f {f : Nat → Int64} {i : Nat} (h : ¬ f i < ld_mn f i) : ld_mn f (i + 1) = ld_mn f i := by rw [ld_mn, if_neg h]
theorem ld_mx_cong {f g : Nat → Int64} (h : ∀ j, j < 12 → f j = g j) : ∀ i, i ≤ 12 → ld_mx f i = ld_mx g i
  | 0, _ => h 0 (by decide)
  | i + 1, hi => by rw [ld_mx, ld_mx, ld_mx_cong h i (by omega), h i (by omega)]
theorem ld_mn_cong {f g : Nat → Int64} (h : ∀ j, j < 12 → f j = g j) : ∀ i, i ≤ 12 → ld_mn f i = ld_mn g i
  | 0, _ => h 0 (by decide)
  | i + 1, hi => by rw [ld_mn, ld_mn, ld_mn_cong h i (by omega), h i (by omega)]
/-! the first place of a value, the last, whether there is one -/
def ld_first (f : Nat → Int64) (t : Int64) (r : Int32) : Prop := (r = -1 ∧ ∀ j, j < 12 → f j ≠ t) ∨ ∃ k, k < 12 ∧ r = nI k ∧ f k = t ∧ ∀ j, j < k → f j ≠ t
def ld_last (f : Nat → Int64) (t : Int64) (r : Int32) : Prop := (r = -1 ∧ ∀ j, j < 12 → f j ≠ t) ∨ ∃ k, k < 12 ∧ r = nI k ∧ f k = t ∧ ∀ j, k < j → j < 12 → f j ≠ t
def ld_has (f : Nat → Int64) (t : Int64) (r : Int32) : Prop := (r = nI 0 ∧ ∀ j, j < 12 → f j ≠ t) ∨ (r = nI 1 ∧ ∃ k, k < 12 ∧ f k = t)
theorem ld_first_eq {f g : Nat → Int64} {t : Int64} {r q : Int32} (h : ∀ j, j < 12 → f j = g j) (hr : ld_first f t r) (hq : ld_first g t q) : r = q := by
  rcases hr with ⟨e, n⟩ | ⟨k, hk, e, y, n⟩ <;> rcases hq with ⟨e', n'⟩ | ⟨k', hk', e', y', n'⟩
  · rw [e, e']
  · exact absurd ((h k' hk').trans y') (n k' hk')
  · exact absurd ((h k hk).symm.trans y) (n' k hk)
  · have : k = k' := by
      rcases Nat.lt_trichotomy k k' with a | a | a
      · exact absurd ((h k hk).symm.trans y) (n' k a)
      · exact a
      · exact absurd ((h k' hk').trans y') (n k' a)
    rw [e, e', this]
theorem ld_last_eq {f g : Nat → Int64} {t : Int64} {r q : Int32} (h : ∀ j, j < 12 → f j = g j) (hr : ld_last f t r) (hq : ld_last g t q) : r = q := by
  rcases hr with ⟨e, n⟩ | ⟨k, hk, e, y, n⟩ <;> rcases hq with ⟨e', n'⟩ | ⟨k', hk', e', y', n'⟩
  · rw [e, e']
  · exact absurd ((h k' hk').trans y') (n k' hk')
  · exact absurd ((h k hk).symm.trans y) (n' k hk)
  · have : k = k' := by
      rcases Nat.lt_trichotomy k k' with a | a | a
      · exact absurd ((h k' hk').trans y') (n k' a hk')
      · exact a
      · exact absurd ((h k hk).symm.trans y) (n' k a hk)
    rw [e, e', this]
theorem ld_has_eq {f g : Nat → Int64} {t : Int64} {r q : Int32} (h : ∀ j, j < 12 → f j = g j) (hr : ld_has f t r) (hq : ld_has g t q) : r = q := by
  rcases hr with ⟨e, n⟩ | ⟨e, k, hk, y⟩ <;> rcases hq with ⟨e', n'⟩ | ⟨e', k', hk', y'⟩
  · rw [e, e']
  · exact absurd ((h k' hk').trans y') (n k' hk')
  · exact absurd ((h k hk).symm.trans y) (n' k hk)
  · rw [e, e']
theorem ld_first_has {f : Nat → Int64} {t : Int64} {r : Int32} (h : ld_first f t r) : (r < 0 → ld_has f t (nI 0)) ∧ (¬ r < 0 → ld_has f t (nI 1)) := by
  rcases h with ⟨e, n⟩ | ⟨k, hk, e, y, n⟩
  · exact ⟨fun _ => Or.inl ⟨rfl, n⟩, fun q => absurd (by rw [e]; decide +kernel) q⟩
  · exact ⟨fun q => absurd q (by rw [e]; exact nI_pos (by omega)), fun _ => Or.inr ⟨rfl, k, hk, y⟩⟩
/-! the nearest value between two -/
def ld_wi (v a b : Int64) : Int64 := if v < (if a < b then a else b) then (if a < b then a else b) else if (if a < b then b else a) < v then (if a < b then b else a) else v
theorem ld_wi_x {v a b : Int64} : (if (if a < b then b else a) < (if (if a < b then a else b) < v then v else (if a < b then a else b)) then (if a < b then b else a) else (if (if a < b then a else b) < v then v else (if a < b then a else b))) = ld_wi v a b := by
  unfold ld_wi
  simp only [Int64.lt_iff_toInt_lt]
  repeat' split
  all_goals first | rfl | (exfalso; omega) | (apply Int64.toInt_inj.mp; omega)
theorem ld_wi_mn (a b : Int64) : (if b < a then b else a) = (if a < b then a else b) := by
  simp only [Int64.lt_iff_toInt_lt]
  repeat' split
  all_goals first | rfl | (exfalso; omega) | (apply Int64.toInt_inj.mp; omega)
theorem ld_wi_mx (a b : Int64) : (if b < a then a else b) = (if a < b then b else a) := by
  simp only [Int64.lt_iff_toInt_lt]
  repeat' split
  all_goals first | rfl | (exfalso; omega) | (apply Int64.toInt_inj.mp; omega)
theorem ld_wi_le (a b : Int64) : (if a < b then a else b) ≤ (if a < b then b else a) := by
  simp only [Int64.lt_iff_toInt_lt, Int64.le_iff_toInt_le]
  split <;> omega
/-! a row turned round between two places -/
def ld_rv (f : Nat → Int64) (a b : Nat) : Nat → Int64 := fun k => if a ≤ k ∧ k < b then f (a + b - 1 - k) else f k
theorem ld_rv_cong {f g : Nat → Int64} {a b : Nat} (hb : b ≤ 12) (h : ∀ j, j < 12 → f j = g j) {k : Nat} (hk : k < 12) : ld_rv f a b k = ld_rv g a b k := by
  unfold ld_rv
  split
  · exact h _ (by omega)
  · exact h _ hk
/-- s swaps done, from both ends -/
def ld_rs (f : Nat → Int64) (a b s : Nat) : Nat → Int64 := fun k => if (a ≤ k ∧ k < a + s) ∨ (b - s ≤ k ∧ k < b) then f (a + b - 1 - k) else f k
theorem ld_rs_0 (f : Nat → Int64) (a b k : Nat) : ld_rs f a b 0 k = f k := by
  unfold ld_rs
  rw [if_neg (by omega)]
theorem ld_rs_end {f : Nat → Int64} {a b s k : Nat} (hs : a + 2 * s ≤ b) (he : b ≤ a + 2 * s + 1) : ld_rs f a b s k = ld_rv f a b k := by
  unfold ld_rs ld_rv
  by_cases h : (a ≤ k ∧ k < a + s) ∨ (b - s ≤ k ∧ k < b)
  · rw [if_pos h, if_pos (by omega)]
  · rw [if_neg h]
    by_cases h2 : a ≤ k ∧ k < b
    · rw [if_pos h2]
      exact congrArg f (by omega)
    · rw [if_neg h2]
theorem ld_rs_step {f g : Nat → Int64} {a b s : Nat} (hs : a + 2 * s + 1 < b) (hb : b ≤ 12) (h : ∀ k, k < 12 → g k = ld_rs f a b s k) : ∀ k, k < 12 → vp_updL (vp_updL g (a + s) (g (b - 1 - s))) (b - 1 - s) (g (a + s)) k = ld_rs f a b (s + 1) k := by
  intro k hk
  have e1 : g (a + s) = f (a + s) := by
    rw [h _ (by omega)]
    unfold ld_rs
    rw [if_neg (by omega)]
  have e2 : g (b - 1 - s) = f (b - 1 - s) := by
    rw [h _ (by omega)]
    unfold ld_rs
    rw [if_neg (by omega)]
  rw [e1, e2]
  unfold vp_updL
  by_cases k1 : k = b - 1 - s
  · subst k1
    rw [if_pos rfl]
    unfold ld_rs
    rw [if_pos (by omega)]
    exact congrArg f (by omega)
  · rw [if_neg k1]
    by_cases k2 : k = a + s
    · subst k2
      rw [if_pos rfl]
      unfold ld_rs
      rw [if_pos (by omega)]
      exact congrArg f (by omega)
    · rw [if_neg k2, h k hk]
      unfold ld_rs
      by_cases h3 : (a ≤ k ∧ k < a + s) ∨ (b - s ≤ k ∧ k < b)
      · rw [if_pos h3, if_pos (by omega)]
      · rw [if_neg h3, if_neg (by omega)]
/-- the reference's way: the places below k are done -/
def ld_rp (f : Nat → Int64) (a b k : Nat) : Nat → Int64 := fun j => if a ≤ j ∧ j < k then f (a + b - 1 - j) else f j
theorem ld_rp_0 (f : Nat → Int64) (a b j : Nat) : ld_rp f a b a j = f j := by
  unfold ld_rp
  rw [if_neg (by omega)]
theorem ld_rp_step {f g : Nat → Int64} {a b k : Nat} {v : Int64} (hk : a ≤ k) (hb : k < b) (hv : v = f (a + b - 1 - k)) (h : ∀ j, j < 12 → g j = ld_rp f a b k j) : ∀ j, j < 12 → vp_updL g k v j = ld_rp f a b (k + 1) j := by
  intro j hj
  unfold vp_updL
  by_cases e : j = k
  · subst e
    rw [if_pos rfl, hv]
    unfold ld_rp
    rw [if_pos (by omega)]
  · rw [if_neg e, h j hj]
    unfold ld_rp
    by_cases h3 : a ≤ j ∧ j < k
    · rw [if_pos h3, if_pos (by omega)]
    · rw [if_neg h3, if_neg (by omega)]
/-- one place is written on both sides -/
theorem ld_up_cong {f g : Nat → Int64} {k : Nat} {v : Int64} (h : ∀ j, j < 12 → f j = g j) : ∀ j, j < 12 → vp_updL f k v j = vp_updL g k v j := by
  intro j hj
  unfold vp_updL
  rw [h j hj]
/-! rows for loops -/
theorem ld_ge_s {p : Nat → Prop} {i n : Nat} (h : ∀ j, i + 1 ≤ j → j < n → p j) (hi : p i) : ∀ j, i ≤ j → j < n → p j := by
  intro j h1 h2
  rcases Nat.eq_or_lt_of_le h1 with z | z
  · rw [← z]
    exact hi
  · exact h j z h2
theorem ld_cp_step {f g : Nat → Int64} {k : Nat} (h : ∀ j, j < k → g j = f j) : ∀ j, j < k + 1 → vp_updL g k (f k) j = f j := by
  intro j hj
  unfold vp_updL
  by_cases e : j = k
  · rw [if_pos e, e]
  · rw [if_neg e]
    exact h j (by omega)
def ld_fi (f : Nat → Int64) (t : Int64) (i : Nat) (r : Int32) : Prop := (r = -1 ∧ ∀ j, i ≤ j → j < 12 → f j ≠ t) ∨ ∃ k, k < 12 ∧ r = nI k ∧ f k = t ∧ ∀ j, i ≤ j → j < k → f j ≠ t
theorem ld_fi_0 {f : Nat → Int64} {t : Int64} {r : Int32} (h : ld_fi f t 0 r) : ld_first f t r := by
  rcases h with ⟨e, n⟩ | ⟨k, hk, e, y, n⟩
  · exact Or.inl ⟨e, fun j hj => n j (Nat.zero_le j) hj⟩
  · exact Or.inr ⟨k, hk, e, y, fun j hj => n j (Nat.zero_le j) hj⟩
theorem ld_fi_12 (f : Nat → Int64) (t : Int64) : ld_fi f t 12 (-1) := Or.inl ⟨rfl, fun j h1 h2 => absurd h2 (Nat.not_lt.mpr h1)⟩
theorem ld_fi_t {f : Nat → Int64} {t : Int64} {i : Nat} (hi : i < 12) (h : f i = t) : ld_fi f t i (nI i) := Or.inr ⟨i, hi, rfl, h, fun j h1 h2 => absurd h2 (Nat.not_lt.mpr h1)⟩
theorem ld_fi_f {f : Nat → Int64} {t : Int64} {i : Nat} {r : Int32} (hn : f i ≠ t) (h : ld_fi f t (i + 1) r) : ld_fi f t i r := by
  rcases h with ⟨e, n⟩ | ⟨k, hk, e, y, n⟩
  · exact Or.inl ⟨e, ld_ge_s n hn⟩
  · exact Or.inr ⟨k, hk, e, y, ld_ge_s n hn⟩
def ld_la (f : Nat → Int64) (t : Int64) (i : Nat) (r : Int32) : Prop := (r = -1 ∧ ∀ j, j < i → f j ≠ t) ∨ ∃ k, k < i ∧ r = nI k ∧ f k = t ∧ ∀ j, k < j → j < i → f j ≠ t
theorem ld_la_0 (f : Nat → Int64) (t : Int64) : ld_la f t 0 (-1) := Or.inl ⟨rfl, fun j h => absurd h (Nat.not_lt_zero j)⟩
theorem ld_la_12 {f : Nat → Int64} {t : Int64} {r : Int32} (h : ld_la f t 12 r) : ld_last f t r := h
theorem ld_la_t {f : Nat → Int64} {t : Int64} {i : Nat} (h : f i = t) : ld_la f t (i + 1) (nI i) := Or.inr ⟨i, Nat.lt_succ_self i, rfl, h, fun j h1 h2 => absurd h1 (by omega)⟩
theorem ld_la_f {f : Nat → Int64} {t : Int64} {i : Nat} {r : Int32} (hn : f i ≠ t) (h : ld_la f t i r) : ld_la f t (i + 1) r := by
  rcases h with ⟨e, n⟩ | ⟨k, hk, e, y, n⟩
  · exact Or.inl ⟨e, lt_s n hn⟩
  · refine Or.inr ⟨k, by omega, e, y, fun j h1 h2 => ?_⟩
    by_cases z : j = i
    · rw [z]
      exact hn
    · exact n j h1 (by omega)
theorem ld_lt6 {a i : Nat} (ha : a ≤ 288) (hi : i ≤ 300) : nI a - nI 6 < nI i ↔ a < i + 6 := by
  rw [Int32.lt_iff_toInt_lt, pk_sub_toInt (by omega) (by omega), nI_toInt (by omega)]
  omega
theorem ld_and15 (x : Int32) : x &&& nI 15 = nI (x.toBitVec.toNat % 16) := pk_and x 4 (by decide +kernel)
theorem ld_ne_cmp {x y : Int64} (h : x = y) : lg_cmp x y = 0 := (lg_cmp_eq x y).mpr h
theorem ld_inc6 (n : Nat) : nI n + Int32.ofInt 6 = nI (n + 6) := nI_add n 6
theorem ld_16 (w : Nat) : w = 0 ∨ w = 1 ∨ w = 2 ∨ w = 3 ∨ w = 4 ∨ w = 5 ∨ w = 6 ∨ w = 7 ∨ w = 8 ∨ w = 9 ∨ w = 10 ∨ 10 < w := by omega
end
section
/-! rows of ours over the kit's: named tops, places that are nI i, the worlds' words -/
abbrev ld_Cl : List vw_C := [(RX0, TX0, 1), (RX1, TX1, 1)]
abbrev ld_I (dC : Nat → ClassId) (dI : Nat → Nat → Nat) (sz : Nat) (w : va_W) (ty : List (ClassId × FieldType)) (U : State) : Prop := U.heap.size = sz ∧ va_P (dC, dI) ld_Cl w U.heap ∧ va_K (dC, dI) ld_Cl ty U ∧ va_D (fun _ => True) w
abbrev ld_B {S : Type} (dC : Nat → ClassId) (dI : Nat → Nat → Nat) (A : Nat → Prop) (w : S → va_W) (ty : List (ClassId × FieldType)) (u : S) (t : State) : Prop := va_P (dC, dI) ld_Cl (w u) t.heap ∧ va_K (dC, dI) ld_Cl ty t ∧ va_D A (w u)
/-- a row of twelve longs at the cell a -/
abbrev ld_A (a : Nat) (d : ClassId) (f : Nat → Int64) : Nat × va_E := (a, .inl (d, 12, .inr (.inl f)))
/-- an object of class ci (0 the desk, 1 the reference) at the cell h whose field is the row at a -/
abbrev ld_O (h ci a : Nat) : Nat × va_E := (h, .inr (ci, [.ref a]))
abbrev ld_tx : String := "min (%s) must be less than or equal to max (%s)"
section LDR
variable {p : Program} {l : Launch} {e : Env} {R : Room} {s : State} {m : MethodId} {args : Array Value} {below : List Frame} {meth : Method} {c : Code} {H : Heap} {locs : List Loc} {cells slots : Nat} {Q : State → Prop}
variable {cc : ByteArray} {pc : Nat} {ls : Array Slot} {rest : List Value} {D : va_G} {cl : List vw_C} {A : Nat → Prop} {a : Nat} {tys : List (ClassId × FieldType)} {ws : va_W} {H0 : Heap}
theorem ld_topi {x y : Int32} (h : x = y) (k : W p l e R s m args below meth c H locs cells slots Q (F0 m pc ls (.int y :: rest))) : W p l e R s m args below meth c H locs cells slots Q (F0 m pc ls (.int x :: rest)) := by
  rw [h]
  exact k
theorem ld_topl {x y : Int64} (h : x = y) (k : W p l e R s m args below meth c H locs cells slots Q (F0 m pc ls (.long y :: rest))) : W p l e R s m args below meth c H locs cells slots Q (F0 m pc ls (.long x :: rest)) := by
  rw [h]
  exact k
theorem ld_lald (hexec : p.tables.exec = Jvm.exec) (hb : c.code = cc) (hK : va_K D cl tys s) (hP : va_P D cl ws H) (q0 t0 : Nat) {cA : ClassId} {n : Nat} {f : Nat → Int64} (ha : ws[q0]? = some (a, .inl (cA, n, .inr (.inl f)))) (ht : tys[t0]? = some (cA, .long)) {i : Nat} (hin : i < n) (hn : n < 2 ^ 31) (hdg : decode cc pc = .ok (.laload, 1))
    (kk : W p l e R s m args below meth c H locs cells slots Q (F0 m (pc + 1) ls (.long (f i) :: rest))) : W p l e R s m args below meth c H locs cells slots Q (F0 m pc ls (.int (nI i) :: .ref a :: rest)) :=
  va_lald hexec hb hK hP q0 t0 ha ht (vp_in_nI hin hn) hdg (by rw [nI_clamp (by omega)]; exact kk)
theorem ld_bald (hexec : p.tables.exec = Jvm.exec) (hb : c.code = cc) (hK : va_K D cl tys s) (hP : va_P D cl ws H) (q0 t0 : Nat) {cA : ClassId} {n : Nat} {f : Nat → Int32} (ha : ws[q0]? = some (a, .inl (cA, n, .inl f))) (ht : tys[t0]? = some (cA, .byte)) {i : Nat} (hin : i < n) (hn : n < 2 ^ 31) (hdg : decode cc pc = .ok (.baload, 1))
    (kk : W p l e R s m args below meth c H locs cells slots Q (F0 m (pc + 1) ls (.int (f i) :: rest))) : W p l e R s m args below meth c H locs cells slots Q (F0 m pc ls (.int (nI i) :: .ref a :: rest)) :=
  va_bald hexec hb hK hP q0 t0 ha ht (vp_in_nI hin hn) hdg (by rw [nI_clamp (by omega)]; exact kk)
theorem ld_last_ (hexec : p.tables.exec = Jvm.exec) (hb : c.code = cc) (hK : va_K D cl tys s) (hP : va_P D cl ws H) (hD : va_D A ws) (hS : va_S A H0 H locs) (q0 t0 : Nat) {cA : ClassId} {n : Nat} {f : Nat → Int64} (ha : ws[q0]? = some (a, .inl (cA, n, .inr (.inl f)))) (ht : tys[t0]? = some (cA, .long)) {i : Nat} {x : Int64} (hin : i < n) (hn : n < 2 ^ 31) (hdg : decode cc pc = .ok (.lastore, 1))
    (kk : ∀ (H1 : Heap) (locs1 : List Loc), va_P D cl (ws.set q0 (a, .inl (cA, n, .inr (.inl (vp_updL f i x))))) H1 → va_D A (ws.set q0 (a, .inl (cA, n, .inr (.inl (vp_updL f i x))))) → va_S A H0 H1 locs1 → W p l e R s m args below meth c H1 locs1 cells slots Q (F0 m (pc + 1) ls rest)) : W p l e R s m args below meth c H locs cells slots Q (F0 m pc ls (.long x :: .int (nI i) :: .ref a :: rest)) :=
  va_last hexec hb hK hP hD hS q0 t0 ha ht (vp_in_nI hin hn) hdg (fun H1 L1 h1 h2 h3 => by rw [nI_clamp (by omega)] at h1 h2; exact kk H1 L1 h1 h2 h3)
theorem ld_bast (hexec : p.tables.exec = Jvm.exec) (hb : c.code = cc) (hK : va_K D cl tys s) (hP : va_P D cl ws H) (hD : va_D A ws) (hS : va_S A H0 H locs) (q0 t0 : Nat) {cA : ClassId} {n : Nat} {f : Nat → Int32} (ha : ws[q0]? = some (a, .inl (cA, n, .inl f))) (ht : tys[t0]? = some (cA, .byte)) {i : Nat} {z : Int32} (hin : i < n) (hn : n < 2 ^ 31) (hdg : decode cc pc = .ok (.bastore, 1))
    (kk : ∀ (H1 : Heap) (locs1 : List Loc), va_P D cl (ws.set q0 (a, .inl (cA, n, .inl (upd f i z.toInt8.toInt32)))) H1 → va_D A (ws.set q0 (a, .inl (cA, n, .inl (upd f i z.toInt8.toInt32)))) → va_S A H0 H1 locs1 → W p l e R s m args below meth c H1 locs1 cells slots Q (F0 m (pc + 1) ls rest)) : W p l e R s m args below meth c H locs cells slots Q (F0 m pc ls (.int z.toInt8.toInt32 :: .int (nI i) :: .ref a :: rest)) :=
  va_bast hexec hb hK hP hD hS q0 t0 ha ht (vp_in_nI hin hn) hdg (fun H1 L1 h1 h2 h3 => by rw [nI_clamp (by omega), pk_vb] at h1 h2; exact kk H1 L1 h1 h2 h3)
theorem ld_sld (hexec : p.tables.exec = Jvm.exec) (hb : c.code = cc) {b L : Nat} {xs : Nat → Int32} (hX : va_X b L xs s H0) (hbl : b < H0.size) (hbA : ¬ A b) (hS : va_S A H0 H locs) {i : Nat} (hin : i < L) (hn : L < 2 ^ 31) (hdg : decode cc pc = .ok (.iaload, 1))
    (kk : W p l e R s m args below meth c H locs cells slots Q (F0 m (pc + 1) ls (.int (xs i) :: rest))) : W p l e R s m args below meth c H locs cells slots Q (F0 m pc ls (.int (nI i) :: .ref b :: rest)) :=
  va_sld hexec hb hX hbl hbA hS (vp_in_nI hin hn) hdg (by rw [nI_clamp (by omega)]; exact kk)
end LDR
theorem ld_wn0 (a b : Nat) : a = ld_wn a b (32 - 32) := by
  rw [Nat.sub_self, ld_wn]
end
section
/-! Preconditions, as far as they let pass -/
set_option maxRecDepth 100000
set_option maxHeartbeats 4000000 in
set_option maxRecDepth 100000 in
/-- Preconditions.checkArgument(true) -/
theorem metX3_checkArgument (l : Launch) (dC : Nat → ClassId) (dI : Nat → Nat → Nat) (sz : Nat) : Met l yX3_checkArgument (ws_ yX3_checkArgument cX3_checkArgument 1 none) ({ frames := 0, cells := 0, slots := 0, locals := 0 } : Room) (va_Pc [.int (nI 1)] (fun U => ld_I dC dI sz [] [] U)) (va_Qv (fun (_ : Unit) => True) (ld_B dC dI (va_A [] sz) (fun (_ : Unit) => []) []) (va_A [] sz)) 0 0 (va_A [] sz) := by
  refine Met.ofW (cc := cX3_checkArgument) (maxL := 1) (ret := none) (by decide) rfl ?_
  intro p e s m args below meth c s₁ B hml hv
  obtain ⟨rfl, hsz, hP, hK, hD0⟩ := hv
  have hx := B.exec
  have hb := B.bytes
  have hr := B.returns
  have hts := atoms_spec (ws := (ws_ yX3_checkArgument cX3_checkArgument 1 none)) B.pre
  have hts : ∀ w ∈ lw_all, w.before _ s = true := fun w h => hts w (List.mem_cons_of_mem _ h)
  have hown : s.vm.findClass RX3 = some m.cls := findClass_of_methodNamed B.named
  have hlocks := B.notSynchronized
  subst hsz
  have hD := hD0.self (sz := s.heap.size)
  generalize hAe : va_A [] s.heap.size = A at hD ⊢
  have hA : ∀ q : Nat, s.heap.size ≤ q → A q := fun q h => by rw [← hAe]; exact Or.inr h
  have hS : va_S A s.heap s.heap [] := va_S.rf
  have hP : va_P (dC, dI) ld_Cl [] s.heap := hP
  have hl := lv_entry ([.int (nI 1)]) (n := 1) (Nat.le_of_ble_eq_true rfl)
  rw [lg_entry_eq]
  generalize (lg_sl ([.int (nI 1)]) ++ List.replicate (1 - (lg_sl ([.int (nI 1)])).length) Slot.unset).toArray = ls at hl ⊢
  have hl : lv_has ls 1 [(0, .int (nI 1))] := hl
  refine lv_iload_n hx hb dX3_checkArgument_0 rfl (lv_at hl 0 rfl) ?_
  refine lv_if_ne (tgt := 12) hx hb dX3_checkArgument_1 (by decide) (fun c_1 => ?_) (fun c_1 => ?_)
  · have hP9 := hP.sub (ws' := []) [] rfl
    have hD9 := hD.sub (ws' := []) [] (by decide) rfl
    have hK9 := hK.sub (tys' := []) [] rfl
    exact W.vret hx hb hr (fun t ht hW => ⟨⟨(), rfl, trivial, by rw [ht]; exact hP9, va_K.moved hW.alike hK9, hD9⟩, hS.F ht⟩) hS.2.2 dX3_checkArgument_12
  · exact absurd c_1 (by decide +kernel)
set_option maxHeartbeats 4000000 in
set_option maxRecDepth 100000 in
/-- Preconditions.checkArgument(true, text, x, y) -/
theorem metX3_checkArgument_2 (l : Launch) (dC : Nat → ClassId) (dI : Nat → Nat → Nat) (sz : Nat) (q : Nat) (x y : Int64) : Met l yX3_checkArgument_2 (ws_ yX3_checkArgument_2 cX3_checkArgument_2 6 none) ({ frames := 0, cells := 0, slots := 0, locals := 0 } : Room) (va_Pc [.int (nI 1), .ref q, .long x, .long y] (fun U => ld_I dC dI sz [] [] U)) (va_Qv (fun (_ : Unit) => True) (ld_B dC dI (va_A [] sz) (fun (_ : Unit) => []) []) (va_A [] sz)) 0 0 (va_A [] sz) := by
  refine Met.ofW (cc := cX3_checkArgument_2) (maxL := 6) (ret := none) (by decide) rfl ?_
  intro p e s m args below meth c s₁ B hml hv
  obtain ⟨rfl, hsz, hP, hK, hD0⟩ := hv
  have hx := B.exec
  have hb := B.bytes
  have hr := B.returns
  have hts := atoms_spec (ws := (ws_ yX3_checkArgument_2 cX3_checkArgument_2 6 none)) B.pre
  have hts : ∀ w ∈ lw_all, w.before _ s = true := fun w h => hts w (List.mem_cons_of_mem _ h)
  have hown : s.vm.findClass RX3 = some m.cls := findClass_of_methodNamed B.named
  have hlocks := B.notSynchronized
  subst hsz
  have hD := hD0.self (sz := s.heap.size)
  generalize hAe : va_A [] s.heap.size = A at hD ⊢
  have hA : ∀ q : Nat, s.heap.size ≤ q → A q := fun q h => by rw [← hAe]; exact Or.inr h
  have hS : va_S A s.heap s.heap [] := va_S.rf
  have hP : va_P (dC, dI) ld_Cl [] s.heap := hP
  have hl := lv_entry ([.int (nI 1), .ref q, .long x, .long y]) (n := 6) (Nat.le_of_ble_eq_true rfl)
  rw [lg_entry_eq]
  generalize (lg_sl ([.int (nI 1), .ref q, .long x, .long y]) ++ List.replicate (6 - (lg_sl ([.int (nI 1), .ref q, .long x, .long y])).length) Slot.unset).toArray = ls at hl ⊢
  have hl : lv_has ls 6 [(0, .int (nI 1)), (1, .ref q), (2, .long x), (4, .long y)] := hl
  refine lv_iload_n hx hb dX3_checkArgument_2_0 rfl (lv_at hl 0 rfl) ?_
  refine lv_if_ne (tgt := 14) hx hb dX3_checkArgument_2_1 (by decide) (fun c_2 => ?_) (fun c_2 => ?_)
  · have hP9 := hP.sub (ws' := []) [] rfl
    have hD9 := hD.sub (ws' := []) [] (by decide) rfl
    have hK9 := hK.sub (tys' := []) [] rfl
    exact W.vret hx hb hr (fun t ht hW => ⟨⟨(), rfl, trivial, by rw [ht]; exact hP9, va_K.moved hW.alike hK9, hD9⟩, hS.F ht⟩) hS.2.2 dX3_checkArgument_2_14
  · exact absurd c_2 (by decide +kernel)
set_option maxHeartbeats 4000000 in
set_option maxRecDepth 100000 in
/-- Preconditions.checkNotNull(an object) -/
theorem metX3_checkNotNull (l : Launch) (dC : Nat → ClassId) (dI : Nat → Nat → Nat) (sz : Nat) (a : Nat) : Met l yX3_checkNotNull (ws_ yX3_checkNotNull cX3_checkNotNull 1 (some (.object "java/lang/Object"))) ({ frames := 0, cells := 0, slots := 0, locals := 0 } : Room) (va_Pc [.ref a] (fun U => ld_I dC dI sz [] [] U)) (va_Qr (fun (_ : Unit) => True) (fun (u : Unit) (ra : Nat) (t : State) => ra = a ∧ ld_B dC dI (va_A [] sz) (fun (_ : Unit) => []) [] u t) (va_A [] sz)) 0 0 (va_A [] sz) := by
  refine Met.ofW (cc := cX3_checkNotNull) (maxL := 1) (ret := (some (.object "java/lang/Object"))) (by decide) rfl ?_
  intro p e s m args below meth c s₁ B hml hv
  obtain ⟨rfl, hsz, hP, hK, hD0⟩ := hv
  have hx := B.exec
  have hb := B.bytes
  have hr := B.returns
  have hts := atoms_spec (ws := (ws_ yX3_checkNotNull cX3_checkNotNull 1 (some (.object "java/lang/Object")))) B.pre
  have hts : ∀ w ∈ lw_all, w.before _ s = true := fun w h => hts w (List.mem_cons_of_mem _ h)
  have hown : s.vm.findClass RX3 = some m.cls := findClass_of_methodNamed B.named
  have hlocks := B.notSynchronized
  subst hsz
  have hD := hD0.self (sz := s.heap.size)
  generalize hAe : va_A [] s.heap.size = A at hD ⊢
  have hA : ∀ q : Nat, s.heap.size ≤ q → A q := fun q h => by rw [← hAe]; exact Or.inr h
  have hS : va_S A s.heap s.heap [] := va_S.rf
  have hP : va_P (dC, dI) ld_Cl [] s.heap := hP
  have hl := lv_entry ([.ref a]) (n := 1) (Nat.le_of_ble_eq_true rfl)
  rw [lg_entry_eq]
  generalize (lg_sl ([.ref a]) ++ List.replicate (1 - (lg_sl ([.ref a])).length) Slot.unset).toArray = ls at hl ⊢
  have hl : lv_has ls 1 [(0, .ref a)] := hl
  refine lv_aload_n hx hb dX3_checkNotNull_0 rfl (lv_at hl 0 rfl) ?_
  refine lv_ifnonnull (tgt := 12) hx hb dX3_checkNotNull_1 (by decide) ?_
  refine lv_aload_n hx hb dX3_checkNotNull_12 rfl (lv_at hl 0 rfl) ?_
  have hP9 := hP.sub (ws' := []) [] rfl
  have hD9 := hD.sub (ws' := []) [] (by decide) rfl
  have hK9 := hK.sub (tys' := []) [] rfl
  exact W.aret (v := .ref a) hx hb hr (Or.inl ⟨_, rfl⟩) (Or.inr ⟨_, rfl⟩) (fun t ht hW => ⟨⟨(), a, rfl, trivial, ⟨rfl, by rw [ht]; exact hP9, va_K.moved hW.alike hK9, hD9⟩⟩, hS.F ht⟩) hS.2.2 dX3_checkNotNull_13
set_option maxHeartbeats 4000000 in
set_option maxRecDepth 100000 in
/-- Preconditions.checkPositionIndexes(a, b, 12), a ≤ b ≤ 12 -/
theorem metX3_checkPositionIndexes (l : Launch) (dC : Nat → ClassId) (dI : Nat → Nat → Nat) (sz : Nat) (a b : Nat) (hab : a ≤ b) (h12 : b ≤ 12) : Met l yX3_checkPositionIndexes (ws_ yX3_checkPositionIndexes cX3_checkPositionIndexes 3 none) ({ frames := 0, cells := 0, slots := 0, locals := 0 } : Room) (va_Pc [.int (nI a), .int (nI b), .int (nI 12)] (fun U => ld_I dC dI sz [] [] U)) (va_Qv (fun (_ : Unit) => True) (ld_B dC dI (va_A [] sz) (fun (_ : Unit) => []) []) (va_A [] sz)) 0 0 (va_A [] sz) := by
  refine Met.ofW (cc := cX3_checkPositionIndexes) (maxL := 3) (ret := none) (by decide) rfl ?_
  intro p e s m args below meth c s₁ B hml hv
  obtain ⟨rfl, hsz, hP, hK, hD0⟩ := hv
  have hx := B.exec
  have hb := B.bytes
  have hr := B.returns
  have hts := atoms_spec (ws := (ws_ yX3_checkPositionIndexes cX3_checkPositionIndexes 3 none)) B.pre
  have hts : ∀ w ∈ lw_all, w.before _ s = true := fun w h => hts w (List.mem_cons_of_mem _ h)
  have hown : s.vm.findClass RX3 = some m.cls := findClass_of_methodNamed B.named
  have hlocks := B.notSynchronized
  subst hsz
  have hD := hD0.self (sz := s.heap.size)
  generalize hAe : va_A [] s.heap.size = A at hD ⊢
  have hA : ∀ q : Nat, s.heap.size ≤ q → A q := fun q h => by rw [← hAe]; exact Or.inr h
  have hS : va_S A s.heap s.heap [] := va_S.rf
  have hP : va_P (dC, dI) ld_Cl [] s.heap := hP
  have hl := lv_entry ([.int (nI a), .int (nI b), .int (nI 12)]) (n := 3) (Nat.le_of_ble_eq_true rfl)
  rw [lg_entry_eq]
  generalize (lg_sl ([.int (nI a), .int (nI b), .int (nI 12)]) ++ List.replicate (3 - (lg_sl ([.int (nI a), .int (nI b), .int (nI 12)])).length) Slot.unset).toArray = ls at hl ⊢
  have hl : lv_has ls 3 [(0, .int (nI a)), (1, .int (nI b)), (2, .int (nI 12))] := hl
  refine lv_iload_n hx hb dX3_checkPositionIndexes_0 rfl (lv_at hl 0 rfl) ?_
  refine lv_if_lt (tgt := 14) hx hb dX3_checkPositionIndexes_1 (by decide) (fun c_3 => ?_) (fun c_3 => ?_)
  · exact absurd c_3 (nI_pos (by omega))
  · refine lv_iload_n hx hb dX3_checkPositionIndexes_4 rfl (lv_at hl 1 rfl) ?_
    refine lv_iload_n hx hb dX3_checkPositionIndexes_5 rfl (lv_at hl 0 rfl) ?_
    refine lv_icmp_lt (tgt := 14) hx hb dX3_checkPositionIndexes_6 (by decide) (fun c_4 => ?_) (fun c_4 => ?_)
    · exact absurd c_4 (nI_nlt hab (by omega))
    · refine lv_iload_n hx hb dX3_checkPositionIndexes_9 rfl (lv_at hl 1 rfl) ?_
      refine lv_iload_n hx hb dX3_checkPositionIndexes_10 rfl (lv_at hl 2 rfl) ?_
      refine lv_icmp_le (tgt := 24) hx hb dX3_checkPositionIndexes_11 (by decide) (fun c_5 => ?_) (fun c_5 => ?_)
      · have hP9 := hP.sub (ws' := []) [] rfl
        have hD9 := hD.sub (ws' := []) [] (by decide) rfl
        have hK9 := hK.sub (tys' := []) [] rfl
        exact W.vret hx hb hr (fun t ht hW => ⟨⟨(), rfl, trivial, by rw [ht]; exact hP9, va_K.moved hW.alike hK9, hD9⟩, hS.F ht⟩) hS.2.2 dX3_checkPositionIndexes_24
      · exact absurd (nI_le h12 (by decide)) c_5
end
section
/-! Longs: contains, indexOf, lastIndexOf -/
set_option maxRecDepth 100000
set_option maxHeartbeats 4000000 in
set_option maxRecDepth 100000 in
/-- Longs.contains: is the value among the twelve -/
theorem metX2_contains (l : Launch) (dC : Nat → ClassId) (dI : Nat → Nat → Nat) (sz : Nat) (d0 : ClassId) (a0 : Nat) (f : Nat → Int64) (t : Int64) : Met l yX2_contains (ws_ yX2_contains cX2_contains 8 (some .boolean)) ({ frames := 0, cells := 0, slots := 0, locals := 0 } : Room) (va_Pc [.ref a0, .long t] (fun U => ld_I dC dI sz [ld_A a0 d0 f] [(d0, .long)] U)) (va_Qi (fun (r : Int32) (_ : Unit) => ld_has f t r) (ld_B dC dI (va_A [ld_A a0 d0 f] sz) (fun (_ : Unit) => [ld_A a0 d0 f]) [(d0, .long)]) (va_A [ld_A a0 d0 f] sz)) 0 0 (va_A [ld_A a0 d0 f] sz) := by
  refine Met.ofW (cc := cX2_contains) (maxL := 8) (ret := (some .boolean)) (by decide) rfl ?_
  intro p e s m args below meth c s₁ B hml hv
  obtain ⟨rfl, hsz, hP, hK, hD0⟩ := hv
  have hx := B.exec
  have hb := B.bytes
  have hr := B.returns
  have hts := atoms_spec (ws := (ws_ yX2_contains cX2_contains 8 (some .boolean))) B.pre
  have hts : ∀ w ∈ lw_all, w.before _ s = true := fun w h => hts w (List.mem_cons_of_mem _ h)
  have hown : s.vm.findClass RX2 = some m.cls := findClass_of_methodNamed B.named
  have hlocks := B.notSynchronized
  subst hsz
  have hD := hD0.self (sz := s.heap.size)
  generalize hAe : va_A [ld_A a0 d0 f] s.heap.size = A at hD ⊢
  have hA : ∀ q : Nat, s.heap.size ≤ q → A q := fun q h => by rw [← hAe]; exact Or.inr h
  have hS : va_S A s.heap s.heap [] := va_S.rf
  have hP : va_P (dC, dI) ld_Cl [ld_A a0 d0 f] s.heap := hP
  have hl := lv_entry ([.ref a0, .long t]) (n := 8) (Nat.le_of_ble_eq_true rfl)
  rw [lg_entry_eq]
  generalize (lg_sl ([.ref a0, .long t]) ++ List.replicate (8 - (lg_sl ([.ref a0, .long t])).length) Slot.unset).toArray = ls at hl ⊢
  have hl : lv_has ls 8 [(0, .ref a0), (1, .long t)] := hl
  refine lv_aload_n hx hb dX2_contains_0 rfl (lv_at hl 0 rfl) ?_
  refine lv_astore_n (lv' := [(3, .ref a0), (0, .ref a0), (1, .long t)]) hx hb dX2_contains_1 rfl hl (by decide) rfl (fun ls hl => ?_)
  refine lv_aload_n hx hb dX2_contains_2 rfl (lv_at hl 0 rfl) ?_
  refine va_alen (v := nI 12) hx hb hK hP 0 0 rfl rfl rfl dX2_contains_3 ?_
  refine lv_istore (lv' := [(4, .int (nI 12)), (3, .ref a0), (0, .ref a0), (1, .long t)]) hx hb dX2_contains_4 hl (by decide) rfl (fun ls hl => ?_)
  refine lv_iconst (v := nI 0) hx hb dX2_contains_6 (by decide +kernel) ?_
  refine lv_istore (lv' := [(5, .int (nI 0)), (4, .int (nI 12)), (3, .ref a0), (0, .ref a0), (1, .long t)]) hx hb dX2_contains_7 hl (by decide) rfl (fun ls hl => ?_)
  have key : ∀ (n i : Nat), 12 < i + n → i ≤ 12 → (∀ j, j < i → f j ≠ t) → ∀ (ls : Array Slot), lv_has ls 8 [(0, .ref a0), (1, .long t), (3, .ref a0), (4, .int (nI 12)), (5, .int (nI i))] → W p l e (headSpec (ws_ yX2_contains cX2_contains 8 (some .boolean)) ({ frames := 0, cells := 0, slots := 0, locals := 0 } : Room)).room s m ([.ref a0, .long t] : List Value).toArray below meth c s.heap [] (0) (0) (MQ below (va_Qi (fun (r : Int32) (_ : Unit) => ld_has f t r) (ld_B dC dI A (fun (_ : Unit) => [ld_A a0 d0 f]) [(d0, .long)]) A) ([.ref a0, .long t] : List Value).toArray s 0 0 A) (F0 m 9 ls []) := by
    intro n
    induction n with
    | zero => intro i h1 h2; exact absurd h1 (by omega)
    | succ n ih =>
      intro i h1 h2 h3 ls hl
      refine lv_iload hx hb dX2_contains_9 (lv_at hl 4 rfl) ?_
      refine lv_iload hx hb dX2_contains_11 (lv_at hl 3 rfl) ?_
      refine lv_icmp_ge (tgt := 37) hx hb dX2_contains_13 (by decide) (fun c_6 => ?_) (fun c_6 => ?_)
      · have hi : i = 12 := by have := (nI_leI (by decide) (by omega)).mp c_6; omega
        subst hi
        refine lv_iconst (v := nI 0) hx hb dX2_contains_37 (by decide +kernel) ?_
        have hP9 := hP.sub (ws' := [ld_A a0 d0 f]) [0] rfl
        have hD9 := hD.sub (ws' := [ld_A a0 d0 f]) [0] (by decide) rfl
        have hK9 := hK.sub (tys' := [(d0, .long)]) [0] rfl
        exact W.zret (v := (nI 0)) hx hb hr (by decide +kernel) (fun t ht hW => ⟨⟨(nI 0), (), rfl, (Or.inl ⟨rfl, h3⟩), by rw [ht]; exact hP9, va_K.moved hW.alike hK9, hD9⟩, hS.F ht⟩) hS.2.2 dX2_contains_38
      · have hi : i < 12 := by
          rcases Nat.lt_or_ge i 12 with z | z
          · exact z
          · exact absurd (nI_le z (by omega)) c_6
        refine lv_aload_n hx hb dX2_contains_16 rfl (lv_at hl 2 rfl) ?_
        refine lv_iload hx hb dX2_contains_17 (lv_at hl 4 rfl) ?_
        refine ld_lald (n := 12) (f := f) (i := i) hx hb hK hP 0 0 rfl rfl hi (by decide) dX2_contains_19 ?_
        refine lv_lstore (lv' := [(6, .long (f i)), (0, .ref a0), (1, .long t), (3, .ref a0), (4, .int (nI 12)), (5, .int (nI i))]) hx hb dX2_contains_20 hl (by decide) rfl (fun ls hl => ?_)
        refine lv_lload hx hb dX2_contains_22 (lv_at hl 0 rfl) ?_
        refine lv_lload_n hx hb dX2_contains_24 rfl (lv_at hl 2 rfl) ?_
        refine W.lcmp hx hb dX2_contains_25 ?_
        refine lv_if_ne (tgt := 31) hx hb dX2_contains_26 (by decide) (fun c_7 => ?_) (fun c_7 => ?_)
        · refine lv_iinc (v := nI (i + 1)) (lv' := [(5, .int (nI (i + 1))), (6, .long (f i)), (0, .ref a0), (1, .long t), (3, .ref a0), (4, .int (nI 12))]) hx hb dX2_contains_31 hl (k := 5) rfl (ld_inc i) (by decide) rfl (fun ls hl => ?_)
          refine lv_goto (tgt := 9) hx hb dX2_contains_34 (by decide) ?_
          exact ih (i + 1) (by omega) (by omega) (lt_s h3 (fun z => c_7 (ld_ne_cmp z))) ls (lv_sub hl [2, 3, 4, 5, 0] rfl)
        · refine lv_iconst (v := nI 1) hx hb dX2_contains_29 (by decide +kernel) ?_
          have hP9 := hP.sub (ws' := [ld_A a0 d0 f]) [0] rfl
          have hD9 := hD.sub (ws' := [ld_A a0 d0 f]) [0] (by decide) rfl
          have hK9 := hK.sub (tys' := [(d0, .long)]) [0] rfl
          exact W.zret (v := (nI 1)) hx hb hr (by decide +kernel) (fun t ht hW => ⟨⟨(nI 1), (), rfl, (Or.inr ⟨rfl, i, hi, (lg_cmp_eq _ _).mp c_7⟩), by rw [ht]; exact hP9, va_K.moved hW.alike hK9, hD9⟩, hS.F ht⟩) hS.2.2 dX2_contains_30
  exact key 13 0 (by decide) (by decide) (fun j hj => absurd hj (Nat.not_lt_zero j)) ls (lv_sub hl [3, 4, 2, 1, 0] rfl)
set_option maxHeartbeats 4000000 in
set_option maxRecDepth 100000 in
/-- Longs.indexOf from 0 to 12 -/
theorem metX2_indexOf_2 (l : Launch) (dC : Nat → ClassId) (dI : Nat → Nat → Nat) (sz : Nat) (d0 : ClassId) (a0 : Nat) (f : Nat → Int64) (t : Int64) : Met l yX2_indexOf_2 (ws_ yX2_indexOf_2 cX2_indexOf_2 6 (some .int)) ({ frames := 0, cells := 0, slots := 0, locals := 0 } : Room) (va_Pc [.ref a0, .long t, .int (nI 0), .int (nI 12)] (fun U => ld_I dC dI sz [ld_A a0 d0 f] [(d0, .long)] U)) (va_Qi (fun (r : Int32) (_ : Unit) => ld_first f t r) (ld_B dC dI (va_A [ld_A a0 d0 f] sz) (fun (_ : Unit) => [ld_A a0 d0 f]) [(d0, .long)]) (va_A [ld_A a0 d0 f] sz)) 0 0 (va_A [ld_A a0 d0 f] sz) := by
  refine Met.ofW (cc := cX2_indexOf_2) (maxL := 6) (ret := (some .int)) (by decide) rfl ?_
  intro p e s m args below meth c s₁ B hml hv
  obtain ⟨rfl, hsz, hP, hK, hD0⟩ := hv
  have hx := B.exec
  have hb := B.bytes
  have hr := B.returns
  have hts := atoms_spec (ws := (ws_ yX2_indexOf_2 cX2_indexOf_2 6 (some .int))) B.pre
  have hts : ∀ w ∈ lw_all, w.before _ s = true := fun w h => hts w (List.mem_cons_of_mem _ h)
  have hown : s.vm.findClass RX2 = some m.cls := findClass_of_methodNamed B.named
  have hlocks := B.notSynchronized
  subst hsz
  have hD := hD0.self (sz := s.heap.size)
  generalize hAe : va_A [ld_A a0 d0 f] s.heap.size = A at hD ⊢
  have hA : ∀ q : Nat, s.heap.size ≤ q → A q := fun q h => by rw [← hAe]; exact Or.inr h
  have hS : va_S A s.heap s.heap [] := va_S.rf
  have hP : va_P (dC, dI) ld_Cl [ld_A a0 d0 f] s.heap := hP
  have hl := lv_entry ([.ref a0, .long t, .int (nI 0), .int (nI 12)]) (n := 6) (Nat.le_of_ble_eq_true rfl)
  rw [lg_entry_eq]
  generalize (lg_sl ([.ref a0, .long t, .int (nI 0), .int (nI 12)]) ++ List.replicate (6 - (lg_sl ([.ref a0, .long t, .int (nI 0), .int (nI 12)])).length) Slot.unset).toArray = ls at hl ⊢
  have hl : lv_has ls 6 [(0, .ref a0), (1, .long t), (3, .int (nI 0)), (4, .int (nI 12))] := hl
  refine lv_iload_n hx hb dX2_indexOf_2_0 rfl (lv_at hl 2 rfl) ?_
  refine lv_istore (lv' := [(5, .int (nI 0)), (0, .ref a0), (1, .long t), (3, .int (nI 0)), (4, .int (nI 12))]) hx hb dX2_indexOf_2_1 hl (by decide) rfl (fun ls hl => ?_)
  have key : ∀ (n i : Nat), 12 < i + n → i ≤ 12 → (∀ j, j < i → f j ≠ t) → ∀ (ls : Array Slot), lv_has ls 6 [(0, .ref a0), (1, .long t), (4, .int (nI 12)), (5, .int (nI i))] → W p l e (headSpec (ws_ yX2_indexOf_2 cX2_indexOf_2 6 (some .int)) ({ frames := 0, cells := 0, slots := 0, locals := 0 } : Room)).room s m ([.ref a0, .long t, .int (nI 0), .int (nI 12)] : List Value).toArray below meth c s.heap [] (0) (0) (MQ below (va_Qi (fun (r : Int32) (_ : Unit) => ld_first f t r) (ld_B dC dI A (fun (_ : Unit) => [ld_A a0 d0 f]) [(d0, .long)]) A) ([.ref a0, .long t, .int (nI 0), .int (nI 12)] : List Value).toArray s 0 0 A) (F0 m 3 ls []) := by
    intro n
    induction n with
    | zero => intro i h1 h2; exact absurd h1 (by omega)
    | succ n ih =>
      intro i h1 h2 h3 ls hl
      refine lv_iload hx hb dX2_indexOf_2_3 (lv_at hl 3 rfl) ?_
      refine lv_iload hx hb dX2_indexOf_2_5 (lv_at hl 2 rfl) ?_
      refine lv_icmp_ge (tgt := 28) hx hb dX2_indexOf_2_7 (by decide) (fun c_8 => ?_) (fun c_8 => ?_)
      · have hi : i = 12 := by have := (nI_leI (by decide) (by omega)).mp c_8; omega
        subst hi
        refine lv_iconst (v := (-1)) hx hb dX2_indexOf_2_28 (by decide +kernel) ?_
        have hP9 := hP.sub (ws' := [ld_A a0 d0 f]) [0] rfl
        have hD9 := hD.sub (ws' := [ld_A a0 d0 f]) [0] (by decide) rfl
        have hK9 := hK.sub (tys' := [(d0, .long)]) [0] rfl
        exact W.iret (v := (-1)) hx hb hr (fun t ht hW => ⟨⟨(-1), (), rfl, (Or.inl ⟨rfl, h3⟩), by rw [ht]; exact hP9, va_K.moved hW.alike hK9, hD9⟩, hS.F ht⟩) hS.2.2 dX2_indexOf_2_29
      · have hi : i < 12 := by
          rcases Nat.lt_or_ge i 12 with z | z
          · exact z
          · exact absurd (nI_le z (by omega)) c_8
        refine lv_aload_n hx hb dX2_indexOf_2_10 rfl (lv_at hl 0 rfl) ?_
        refine lv_iload hx hb dX2_indexOf_2_11 (lv_at hl 3 rfl) ?_
        refine ld_lald (n := 12) (f := f) (i := i) hx hb hK hP 0 0 rfl rfl hi (by decide) dX2_indexOf_2_13 ?_
        refine lv_lload_n hx hb dX2_indexOf_2_14 rfl (lv_at hl 1 rfl) ?_
        refine W.lcmp hx hb dX2_indexOf_2_15 ?_
        refine lv_if_ne (tgt := 22) hx hb dX2_indexOf_2_16 (by decide) (fun c_9 => ?_) (fun c_9 => ?_)
        · refine lv_iinc (v := nI (i + 1)) (lv' := [(5, .int (nI (i + 1))), (0, .ref a0), (1, .long t), (4, .int (nI 12))]) hx hb dX2_indexOf_2_22 hl (k := 3) rfl (ld_inc i) (by decide) rfl (fun ls hl => ?_)
          refine lv_goto (tgt := 3) hx hb dX2_indexOf_2_25 (by decide) ?_
          exact ih (i + 1) (by omega) (by omega) (lt_s h3 (fun z => c_9 (ld_ne_cmp z))) ls (lv_sub hl [1, 2, 3, 0] rfl)
        · refine lv_iload hx hb dX2_indexOf_2_19 (lv_at hl 3 rfl) ?_
          have hP9 := hP.sub (ws' := [ld_A a0 d0 f]) [0] rfl
          have hD9 := hD.sub (ws' := [ld_A a0 d0 f]) [0] (by decide) rfl
          have hK9 := hK.sub (tys' := [(d0, .long)]) [0] rfl
          exact W.iret (v := (nI i)) hx hb hr (fun t ht hW => ⟨⟨(nI i), (), rfl, (Or.inr ⟨i, hi, rfl, (lg_cmp_eq _ _).mp c_9, h3⟩), by rw [ht]; exact hP9, va_K.moved hW.alike hK9, hD9⟩, hS.F ht⟩) hS.2.2 dX2_indexOf_2_21
  exact key 13 0 (by decide) (by decide) (fun j hj => absurd hj (Nat.not_lt_zero j)) ls (lv_sub hl [1, 2, 4, 0] rfl)
set_option maxHeartbeats 4000000 in
set_option maxRecDepth 100000 in
/-- Longs.indexOf -/
theorem metX2_indexOf (l : Launch) (dC : Nat → ClassId) (dI : Nat → Nat → Nat) (sz : Nat) (d0 : ClassId) (a0 : Nat) (f : Nat → Int64) (t : Int64) : Met l yX2_indexOf (ws_ yX2_indexOf cX2_indexOf 3 (some .int)) ({ frames := 1, cells := 0, slots := 0, locals := 32 } : Room) (va_Pc [.ref a0, .long t] (fun U => ld_I dC dI sz [ld_A a0 d0 f] [(d0, .long)] U)) (va_Qi (fun (r : Int32) (_ : Unit) => ld_first f t r) (ld_B dC dI (va_A [ld_A a0 d0 f] sz) (fun (_ : Unit) => [ld_A a0 d0 f]) [(d0, .long)]) (va_A [ld_A a0 d0 f] sz)) 0 0 (va_A [ld_A a0 d0 f] sz) := by
  refine Met.ofW (cc := cX2_indexOf) (maxL := 3) (ret := (some .int)) (by decide) rfl ?_
  intro p e s m args below meth c s₁ B hml hv
  obtain ⟨rfl, hsz, hP, hK, hD0⟩ := hv
  have hx := B.exec
  have hb := B.bytes
  have hr := B.returns
  have hts := atoms_spec (ws := (ws_ yX2_indexOf cX2_indexOf 3 (some .int))) B.pre
  have hts : ∀ w ∈ lw_all, w.before _ s = true := fun w h => hts w (List.mem_cons_of_mem _ h)
  have hown : s.vm.findClass RX2 = some m.cls := findClass_of_methodNamed B.named
  have hlocks := B.notSynchronized
  subst hsz
  have hD := hD0.self (sz := s.heap.size)
  generalize hAe : va_A [ld_A a0 d0 f] s.heap.size = A at hD ⊢
  have hA : ∀ q : Nat, s.heap.size ≤ q → A q := fun q h => by rw [← hAe]; exact Or.inr h
  have hS : va_S A s.heap s.heap [] := va_S.rf
  have hP : va_P (dC, dI) ld_Cl [ld_A a0 d0 f] s.heap := hP
  have hl := lv_entry ([.ref a0, .long t]) (n := 3) (Nat.le_of_ble_eq_true rfl)
  rw [lg_entry_eq]
  generalize (lg_sl ([.ref a0, .long t]) ++ List.replicate (3 - (lg_sl ([.ref a0, .long t])).length) Slot.unset).toArray = ls at hl ⊢
  have hl : lv_has ls 3 [(0, .ref a0), (1, .long t)] := hl
  refine lv_aload_n hx hb dX2_indexOf_0 rfl (lv_at hl 0 rfl) ?_
  refine lv_lload_n hx hb dX2_indexOf_1 rfl (lv_at hl 1 rfl) ?_
  refine lv_iconst (v := nI 0) hx hb dX2_indexOf_2 (by decide +kernel) ?_
  refine lv_aload_n hx hb dX2_indexOf_3 rfl (lv_at hl 0 rfl) ?_
  refine va_alen (v := nI 12) hx hb hK hP 0 0 rfl rfl rfl dX2_indexOf_4 ?_
  have hPc := hP.sub (ws' := [ld_A a0 d0 f]) [0] rfl
  have hDc := hD.sub (ws' := [ld_A a0 d0 f]) [0] (by decide) rfl
  have hKc := hK.sub (tys' := [(d0, .long)]) [0] rfl
  have hFc := va_free (wc := [ld_A a0 d0 f]) hD hS hA [0] rfl
  refine va_calli (va_runS (As := [.ref a0, .long t, .int (nI 0), .int (nI 12)]) (rest := []) ⟨hx, hb, hml, hown, hts⟩ (metX2_indexOf_2 l dC dI s.heap.size d0 a0 f t) (va_cwS 4 hts (lw_S q206 q207 q7 q208) rfl rfl rfl (by decide +kernel) ⟨Nat.le_of_ble_eq_true rfl, Nat.le_of_ble_eq_true rfl⟩) ⟨fun a U g mk q => by obtain ⟨q0, q1, qP, qK, qD⟩ := q; exact ⟨q0, q1, qP, va_K.moved (u := U) (U := U.calling g mk a) (Vm.Alike.refl U.vm) qK, qD⟩, fun U hU hW => ⟨rfl, by rw [hU], by rw [hU]; exact hPc, va_K.moved hW.alike hKc, hDc.weaken (fun _ _ _ _ => trivial)⟩⟩ rfl rfl hl.1 rfl (lv_room (Nat.le_of_ble_eq_true rfl)) dX2_indexOf_5 ⟨Nat.le_of_ble_eq_true rfl, Nat.le_of_ble_eq_true rfl⟩) hS (fun q _ h => hFc q h) hFc (fun r_10 u t H1 locs ht hvm hw hB hz1 hk1 hS => ?_)
  obtain ⟨hP1, hK1, hD1⟩ := hB
  rw [ht] at hP1
  have hK1 := va_K.moved hvm.symm hK1
  obtain ⟨hP, hD⟩ := va_join (wr := []) (w1 := [ld_A a0 d0 f]) hP hD [0] [] rfl rfl (by decide) (by decide) hk1 hFc hP1 hD1
  have hK := (hK.sub (tys' := []) [] rfl).app hK1
  generalize H1 = H at hP hS ⊢
  have hP : va_P (dC, dI) ld_Cl [ld_A a0 d0 f] H := hP
  have hD : va_D A [ld_A a0 d0 f] := hD
  have hK : va_K (dC, dI) ld_Cl [(d0, .long)] s := hK
  have hP9 := hP.sub (ws' := [ld_A a0 d0 f]) [0] rfl
  have hD9 := hD.sub (ws' := [ld_A a0 d0 f]) [0] (by decide) rfl
  have hK9 := hK.sub (tys' := [(d0, .long)]) [0] rfl
  exact W.iret (v := r_10) hx hb hr (fun t ht hW => ⟨⟨r_10, (), rfl, hw, by rw [ht]; exact hP9, va_K.moved hW.alike hK9, hD9⟩, hS.F ht⟩) hS.2.2 dX2_indexOf_8
set_option maxHeartbeats 4000000 in
set_option maxRecDepth 100000 in
/-- Longs.lastIndexOf from 0 to 12 -/
theorem metX2_lastIndexOf_2 (l : Launch) (dC : Nat → ClassId) (dI : Nat → Nat → Nat) (sz : Nat) (d0 : ClassId) (a0 : Nat) (f : Nat → Int64) (t : Int64) : Met l yX2_lastIndexOf_2 (ws_ yX2_lastIndexOf_2 cX2_lastIndexOf_2 6 (some .int)) ({ frames := 0, cells := 0, slots := 0, locals := 0 } : Room) (va_Pc [.ref a0, .long t, .int (nI 0), .int (nI 12)] (fun U => ld_I dC dI sz [ld_A a0 d0 f] [(d0, .long)] U)) (va_Qi (fun (r : Int32) (_ : Unit) => ld_last f t r) (ld_B dC dI (va_A [ld_A a0 d0 f] sz) (fun (_ : Unit) => [ld_A a0 d0 f]) [(d0, .long)]) (va_A [ld_A a0 d0 f] sz)) 0 0 (va_A [ld_A a0 d0 f] sz) := by
  refine Met.ofW (cc := cX2_lastIndexOf_2) (maxL := 6) (ret := (some .int)) (by decide) rfl ?_
  intro p e s m args below meth c s₁ B hml hv
  obtain ⟨rfl, hsz, hP, hK, hD0⟩ := hv
  have hx := B.exec
  have hb := B.bytes
  have hr := B.returns
  have hts := atoms_spec (ws := (ws_ yX2_lastIndexOf_2 cX2_lastIndexOf_2 6 (some .int))) B.pre
  have hts : ∀ w ∈ lw_all, w.before _ s = true := fun w h => hts w (List.mem_cons_of_mem _ h)
  have hown : s.vm.findClass RX2 = some m.cls := findClass_of_methodNamed B.named
  have hlocks := B.notSynchronized
  subst hsz
  have hD := hD0.self (sz := s.heap.size)
  generalize hAe : va_A [ld_A a0 d0 f] s.heap.size = A at hD ⊢
  have hA : ∀ q : Nat, s.heap.size ≤ q → A q := fun q h => by rw [← hAe]; exact Or.inr h
  have hS : va_S A s.heap s.heap [] := va_S.rf
  have hP : va_P (dC, dI) ld_Cl [ld_A a0 d0 f] s.heap := hP
  have hl := lv_entry ([.ref a0, .long t, .int (nI 0), .int (nI 12)]) (n := 6) (Nat.le_of_ble_eq_true rfl)
  rw [lg_entry_eq]
  generalize (lg_sl ([.ref a0, .long t, .int (nI 0), .int (nI 12)]) ++ List.replicate (6 - (lg_sl ([.ref a0, .long t, .int (nI 0), .int (nI 12)])).length) Slot.unset).toArray = ls at hl ⊢
  have hl : lv_has ls 6 [(0, .ref a0), (1, .long t), (3, .int (nI 0)), (4, .int (nI 12))] := hl
  refine lv_iload hx hb dX2_lastIndexOf_2_0 (lv_at hl 3 rfl) ?_
  refine lv_iconst (v := nI 1) hx hb dX2_lastIndexOf_2_2 (by decide +kernel) ?_
  refine lv_isub hx hb dX2_lastIndexOf_2_3 ?_
  refine ld_topi (y := ld_dn 12) (ld_sub1 12) ?_
  refine lv_istore (lv' := [(5, .int (ld_dn 12)), (0, .ref a0), (1, .long t), (3, .int (nI 0)), (4, .int (nI 12))]) hx hb dX2_lastIndexOf_2_4 hl (by decide) rfl (fun ls hl => ?_)
  have key : ∀ (i : Nat), i ≤ 12 → (∀ j, i ≤ j → j < 12 → f j ≠ t) → ∀ (ls : Array Slot), lv_has ls 6 [(0, .ref a0), (1, .long t), (3, .int (nI 0)), (5, .int (ld_dn i))] → W p l e (headSpec (ws_ yX2_lastIndexOf_2 cX2_lastIndexOf_2 6 (some .int)) ({ frames := 0, cells := 0, slots := 0, locals := 0 } : Room)).room s m ([.ref a0, .long t, .int (nI 0), .int (nI 12)] : List Value).toArray below meth c s.heap [] (0) (0) (MQ below (va_Qi (fun (r : Int32) (_ : Unit) => ld_last f t r) (ld_B dC dI A (fun (_ : Unit) => [ld_A a0 d0 f]) [(d0, .long)]) A) ([.ref a0, .long t, .int (nI 0), .int (nI 12)] : List Value).toArray s 0 0 A) (F0 m 6 ls []) := by
    intro i
    induction i with
    | zero =>
      intro h2 h3 ls hl
      refine lv_iload hx hb dX2_lastIndexOf_2_6 (lv_at hl 3 rfl) ?_
      refine lv_iload_n hx hb dX2_lastIndexOf_2_8 rfl (lv_at hl 2 rfl) ?_
      refine lv_icmp_lt (tgt := 30) hx hb dX2_lastIndexOf_2_9 (by decide) (fun c_11 => ?_) (fun c_11 => ?_)
      · refine lv_iconst (v := (-1)) hx hb dX2_lastIndexOf_2_30 (by decide +kernel) ?_
        have hP9 := hP.sub (ws' := [ld_A a0 d0 f]) [0] rfl
        have hD9 := hD.sub (ws' := [ld_A a0 d0 f]) [0] (by decide) rfl
        have hK9 := hK.sub (tys' := [(d0, .long)]) [0] rfl
        exact W.iret (v := (-1)) hx hb hr (fun t ht hW => ⟨⟨(-1), (), rfl, (Or.inl ⟨rfl, fun j hj => h3 j (Nat.zero_le j) hj⟩), by rw [ht]; exact hP9, va_K.moved hW.alike hK9, hD9⟩, hS.F ht⟩) hS.2.2 dX2_lastIndexOf_2_31
      · exact absurd ((ld_dn_lt (by decide) (by decide)).mpr (Nat.le_refl 0)) c_11
    | succ i ih =>
      intro h2 h3 ls hl
      rw [ld_dns] at hl
      refine lv_iload hx hb dX2_lastIndexOf_2_6 (lv_at hl 3 rfl) ?_
      refine lv_iload_n hx hb dX2_lastIndexOf_2_8 rfl (lv_at hl 2 rfl) ?_
      refine lv_icmp_lt (tgt := 30) hx hb dX2_lastIndexOf_2_9 (by decide) (fun c_12 => ?_) (fun c_12 => ?_)
      · exact absurd c_12 (nI_nlt (Nat.zero_le i) (by omega))
      · refine lv_aload_n hx hb dX2_lastIndexOf_2_12 rfl (lv_at hl 0 rfl) ?_
        refine lv_iload hx hb dX2_lastIndexOf_2_13 (lv_at hl 3 rfl) ?_
        refine ld_lald (n := 12) (f := f) (i := i) hx hb hK hP 0 0 rfl rfl (by omega) (by decide) dX2_lastIndexOf_2_15 ?_
        refine lv_lload_n hx hb dX2_lastIndexOf_2_16 rfl (lv_at hl 1 rfl) ?_
        refine W.lcmp hx hb dX2_lastIndexOf_2_17 ?_
        refine lv_if_ne (tgt := 24) hx hb dX2_lastIndexOf_2_18 (by decide) (fun c_13 => ?_) (fun c_13 => ?_)
        · refine lv_iinc (v := ld_dn i) (lv' := [(5, .int (ld_dn i)), (0, .ref a0), (1, .long t), (3, .int (nI 0))]) hx hb dX2_lastIndexOf_2_24 hl (k := 3) rfl (ld_dec i) (by decide) rfl (fun ls hl => ?_)
          refine lv_goto (tgt := 6) hx hb dX2_lastIndexOf_2_27 (by decide) ?_
          exact ih (by omega) (ld_ge_s h3 (fun z => c_13 (ld_ne_cmp z))) ls (lv_sub hl [1, 2, 3, 0] rfl)
        · refine lv_iload hx hb dX2_lastIndexOf_2_21 (lv_at hl 3 rfl) ?_
          have hP9 := hP.sub (ws' := [ld_A a0 d0 f]) [0] rfl
          have hD9 := hD.sub (ws' := [ld_A a0 d0 f]) [0] (by decide) rfl
          have hK9 := hK.sub (tys' := [(d0, .long)]) [0] rfl
          exact W.iret (v := (nI i)) hx hb hr (fun t ht hW => ⟨⟨(nI i), (), rfl, (Or.inr ⟨i, by omega, rfl, (lg_cmp_eq _ _).mp c_13, fun j h5 h6 => h3 j (by omega) h6⟩), by rw [ht]; exact hP9, va_K.moved hW.alike hK9, hD9⟩, hS.F ht⟩) hS.2.2 dX2_lastIndexOf_2_23
  exact key 12 (by decide) (fun j h1 h2 => absurd h2 (Nat.not_lt.mpr h1)) ls (lv_sub hl [1, 2, 3, 0] rfl)
set_option maxHeartbeats 4000000 in
set_option maxRecDepth 100000 in
/-- Longs.lastIndexOf -/
theorem metX2_lastIndexOf (l : Launch) (dC : Nat → ClassId) (dI : Nat → Nat → Nat) (sz : Nat) (d0 : ClassId) (a0 : Nat) (f : Nat → Int64) (t : Int64) : Met l yX2_lastIndexOf (ws_ yX2_lastIndexOf cX2_lastIndexOf 3 (some .int)) ({ frames := 1, cells := 0, slots := 0, locals := 32 } : Room) (va_Pc [.ref a0, .long t] (fun U => ld_I dC dI sz [ld_A a0 d0 f] [(d0, .long)] U)) (va_Qi (fun (r : Int32) (_ : Unit) => ld_last f t r) (ld_B dC dI (va_A [ld_A a0 d0 f] sz) (fun (_ : Unit) => [ld_A a0 d0 f]) [(d0, .long)]) (va_A [ld_A a0 d0 f] sz)) 0 0 (va_A [ld_A a0 d0 f] sz) := by
  refine Met.ofW (cc := cX2_lastIndexOf) (maxL := 3) (ret := (some .int)) (by decide) rfl ?_
  intro p e s m args below meth c s₁ B hml hv
  obtain ⟨rfl, hsz, hP, hK, hD0⟩ := hv
  have hx := B.exec
  have hb := B.bytes
  have hr := B.returns
  have hts := atoms_spec (ws := (ws_ yX2_lastIndexOf cX2_lastIndexOf 3 (some .int))) B.pre
  have hts : ∀ w ∈ lw_all, w.before _ s = true := fun w h => hts w (List.mem_cons_of_mem _ h)
  have hown : s.vm.findClass RX2 = some m.cls := findClass_of_methodNamed B.named
  have hlocks := B.notSynchronized
  subst hsz
  have hD := hD0.self (sz := s.heap.size)
  generalize hAe : va_A [ld_A a0 d0 f] s.heap.size = A at hD ⊢
  have hA : ∀ q : Nat, s.heap.size ≤ q → A q := fun q h => by rw [← hAe]; exact Or.inr h
  have hS : va_S A s.heap s.heap [] := va_S.rf
  have hP : va_P (dC, dI) ld_Cl [ld_A a0 d0 f] s.heap := hP
  have hl := lv_entry ([.ref a0, .long t]) (n := 3) (Nat.le_of_ble_eq_true rfl)
  rw [lg_entry_eq]
  generalize (lg_sl ([.ref a0, .long t]) ++ List.replicate (3 - (lg_sl ([.ref a0, .long t])).length) Slot.unset).toArray = ls at hl ⊢
  have hl : lv_has ls 3 [(0, .ref a0), (1, .long t)] := hl
  refine lv_aload_n hx hb dX2_lastIndexOf_0 rfl (lv_at hl 0 rfl) ?_
  refine lv_lload_n hx hb dX2_lastIndexOf_1 rfl (lv_at hl 1 rfl) ?_
  refine lv_iconst (v := nI 0) hx hb dX2_lastIndexOf_2 (by decide +kernel) ?_
  refine lv_aload_n hx hb dX2_lastIndexOf_3 rfl (lv_at hl 0 rfl) ?_
  refine va_alen (v := nI 12) hx hb hK hP 0 0 rfl rfl rfl dX2_lastIndexOf_4 ?_
  have hPc := hP.sub (ws' := [ld_A a0 d0 f]) [0] rfl
  have hDc := hD.sub (ws' := [ld_A a0 d0 f]) [0] (by decide) rfl
  have hKc := hK.sub (tys' := [(d0, .long)]) [0] rfl
  have hFc := va_free (wc := [ld_A a0 d0 f]) hD hS hA [0] rfl
  refine va_calli (va_runS (As := [.ref a0, .long t, .int (nI 0), .int (nI 12)]) (rest := []) ⟨hx, hb, hml, hown, hts⟩ (metX2_lastIndexOf_2 l dC dI s.heap.size d0 a0 f t) (va_cwS 4 hts (lw_S q216 q217 q7 q218) rfl rfl rfl (by decide +kernel) ⟨Nat.le_of_ble_eq_true rfl, Nat.le_of_ble_eq_true rfl⟩) ⟨fun a U g mk q => by obtain ⟨q0, q1, qP, qK, qD⟩ := q; exact ⟨q0, q1, qP, va_K.moved (u := U) (U := U.calling g mk a) (Vm.Alike.refl U.vm) qK, qD⟩, fun U hU hW => ⟨rfl, by rw [hU], by rw [hU]; exact hPc, va_K.moved hW.alike hKc, hDc.weaken (fun _ _ _ _ => trivial)⟩⟩ rfl rfl hl.1 rfl (lv_room (Nat.le_of_ble_eq_true rfl)) dX2_lastIndexOf_5 ⟨Nat.le_of_ble_eq_true rfl, Nat.le_of_ble_eq_true rfl⟩) hS (fun q _ h => hFc q h) hFc (fun r_14 u t H1 locs ht hvm hw hB hz1 hk1 hS => ?_)
  obtain ⟨hP1, hK1, hD1⟩ := hB
  rw [ht] at hP1
  have hK1 := va_K.moved hvm.symm hK1
  obtain ⟨hP, hD⟩ := va_join (wr := []) (w1 := [ld_A a0 d0 f]) hP hD [0] [] rfl rfl (by decide) (by decide) hk1 hFc hP1 hD1
  have hK := (hK.sub (tys' := []) [] rfl).app hK1
  generalize H1 = H at hP hS ⊢
  have hP : va_P (dC, dI) ld_Cl [ld_A a0 d0 f] H := hP
  have hD : va_D A [ld_A a0 d0 f] := hD
  have hK : va_K (dC, dI) ld_Cl [(d0, .long)] s := hK
  have hP9 := hP.sub (ws' := [ld_A a0 d0 f]) [0] rfl
  have hD9 := hD.sub (ws' := [ld_A a0 d0 f]) [0] (by decide) rfl
  have hK9 := hK.sub (tys' := [(d0, .long)]) [0] rfl
  exact W.iret (v := r_14) hx hb hr (fun t ht hW => ⟨⟨r_14, (), rfl, hw, by rw [ht]; exact hP9, va_K.moved hW.alike hK9, hD9⟩, hS.F ht⟩) hS.2.2 dX2_lastIndexOf_8
end
section
/-! Longs: max, min, constrainToRange -/
set_option maxRecDepth 100000
set_option maxHeartbeats 4000000 in
set_option maxRecDepth 100000 in
/-- Longs.max of the twelve -/
theorem metX2_max (l : Launch) (dC : Nat → ClassId) (dI : Nat → Nat → Nat) (sz : Nat) (d0 : ClassId) (a0 : Nat) (f : Nat → Int64) : Met l yX2_max (ws_ yX2_max cX2_max 4 (some .long)) ({ frames := 1, cells := 0, slots := 0, locals := 32 } : Room) (va_Pc [.ref a0] (fun U => ld_I dC dI sz [ld_A a0 d0 f] [(d0, .long)] U)) (va_Ql (fun (r : Int64) (_ : Unit) => r = ld_mx f 12) (ld_B dC dI (va_A [ld_A a0 d0 f] sz) (fun (_ : Unit) => [ld_A a0 d0 f]) [(d0, .long)]) (va_A [ld_A a0 d0 f] sz)) 0 0 (va_A [ld_A a0 d0 f] sz) := by
  refine Met.ofW (cc := cX2_max) (maxL := 4) (ret := (some .long)) (by decide) rfl ?_
  intro p e s m args below meth c s₁ B hml hv
  obtain ⟨rfl, hsz, hP, hK, hD0⟩ := hv
  have hx := B.exec
  have hb := B.bytes
  have hr := B.returns
  have hts := atoms_spec (ws := (ws_ yX2_max cX2_max 4 (some .long))) B.pre
  have hts : ∀ w ∈ lw_all, w.before _ s = true := fun w h => hts w (List.mem_cons_of_mem _ h)
  have hown : s.vm.findClass RX2 = some m.cls := findClass_of_methodNamed B.named
  have hlocks := B.notSynchronized
  subst hsz
  have hD := hD0.self (sz := s.heap.size)
  generalize hAe : va_A [ld_A a0 d0 f] s.heap.size = A at hD ⊢
  have hA : ∀ q : Nat, s.heap.size ≤ q → A q := fun q h => by rw [← hAe]; exact Or.inr h
  have hS : va_S A s.heap s.heap [] := va_S.rf
  have hP : va_P (dC, dI) ld_Cl [ld_A a0 d0 f] s.heap := hP
  have hl := lv_entry ([.ref a0]) (n := 4) (Nat.le_of_ble_eq_true rfl)
  rw [lg_entry_eq]
  generalize (lg_sl ([.ref a0]) ++ List.replicate (4 - (lg_sl ([.ref a0])).length) Slot.unset).toArray = ls at hl ⊢
  have hl : lv_has ls 4 [(0, .ref a0)] := hl
  refine lv_aload_n hx hb dX2_max_0 rfl (lv_at hl 0 rfl) ?_
  refine va_alen (v := nI 12) hx hb hK hP 0 0 rfl rfl rfl dX2_max_1 ?_
  refine lv_if_le (tgt := 9) hx hb dX2_max_2 (by decide) (fun c_15 => ?_) (fun c_15 => ?_)
  · exact absurd c_15 (by decide +kernel)
  · refine lv_iconst (v := nI 1) hx hb dX2_max_5 (by decide +kernel) ?_
    refine lv_goto (tgt := 10) hx hb dX2_max_6 (by decide) ?_
    have hPc := hP.sub (ws' := []) [] rfl
    have hDc := hD.sub (ws' := []) [] (by decide) rfl
    have hKc := hK.sub (tys' := []) [] rfl
    have hFc := va_free (wc := []) hD hS hA [] rfl
    refine va_callv (va_runS (As := [.int (nI 1)]) (rest := []) ⟨hx, hb, hml, hown, hts⟩ (metX3_checkArgument l dC dI s.heap.size) (va_cwS 1 hts (lw_S q174 q175 q8 q176) rfl rfl rfl (by decide +kernel) ⟨Nat.le_of_ble_eq_true rfl, Nat.le_of_ble_eq_true rfl⟩) ⟨fun a U g mk q => by obtain ⟨q0, q1, qP, qK, qD⟩ := q; exact ⟨q0, q1, qP, va_K.moved (u := U) (U := U.calling g mk a) (Vm.Alike.refl U.vm) qK, qD⟩, fun U hU hW => ⟨rfl, by rw [hU], by rw [hU]; exact hPc, va_K.moved hW.alike hKc, hDc.weaken (fun _ _ _ _ => trivial)⟩⟩ rfl rfl hl.1 rfl (lv_room (Nat.le_of_ble_eq_true rfl)) dX2_max_10 ⟨Nat.le_of_ble_eq_true rfl, Nat.le_of_ble_eq_true rfl⟩) hS (fun q _ h => hFc q h) hFc (fun u t H1 locs ht hvm hw hB hz1 hk1 hS => ?_)
    obtain ⟨hP1, hK1, hD1⟩ := hB
    rw [ht] at hP1
    have hK1 := va_K.moved hvm.symm hK1
    obtain ⟨hP, hD⟩ := va_join (wr := [ld_A a0 d0 f]) (w1 := []) hP hD [] [0] rfl rfl (by decide) (by decide) hk1 hFc hP1 hD1
    have hK := (hK.sub (tys' := [(d0, .long)]) [0] rfl).app hK1
    generalize H1 = H at hP hS ⊢
    have hP : va_P (dC, dI) ld_Cl [ld_A a0 d0 f] H := hP
    have hD : va_D A [ld_A a0 d0 f] := hD
    have hK : va_K (dC, dI) ld_Cl [(d0, .long)] s := hK
    refine lv_aload_n hx hb dX2_max_13 rfl (lv_at hl 0 rfl) ?_
    refine lv_iconst (v := nI 0) hx hb dX2_max_14 (by decide +kernel) ?_
    refine ld_lald (n := 12) (f := f) (i := 0) hx hb hK hP 0 0 rfl rfl (by decide) (by decide) dX2_max_15 ?_
    refine ld_topl (y := ld_mx f 1) (ld_mx1 f).symm ?_
    refine lv_lstore_n (lv' := [(1, .long (ld_mx f 1)), (0, .ref a0)]) hx hb dX2_max_16 rfl hl (by decide) rfl (fun ls hl => ?_)
    refine lv_iconst (v := nI 1) hx hb dX2_max_17 (by decide +kernel) ?_
    refine lv_istore_n (lv' := [(3, .int (nI 1)), (1, .long (ld_mx f 1)), (0, .ref a0)]) hx hb dX2_max_18 rfl hl (by decide) rfl (fun ls hl => ?_)
    have key : ∀ (n i : Nat), 12 < i + n → i ≤ 12 → ∀ (ls : Array Slot), lv_has ls 4 [(0, .ref a0), (1, .long (ld_mx f i)), (3, .int (nI i))] → W p l e (headSpec (ws_ yX2_max cX2_max 4 (some .long)) ({ frames := 1, cells := 0, slots := 0, locals := 32 } : Room)).room s m ([.ref a0] : List Value).toArray below meth c H locs (0 + 0) (0 + 0) (MQ below (va_Ql (fun (r : Int64) (_ : Unit) => r = ld_mx f 12) (ld_B dC dI A (fun (_ : Unit) => [ld_A a0 d0 f]) [(d0, .long)]) A) ([.ref a0] : List Value).toArray s 0 0 A) (F0 m 19 ls []) := by
      intro n
      induction n with
      | zero => intro i h1 h2; exact absurd h1 (by omega)
      | succ n ih =>
        intro i h1 h2 ls hl
        refine lv_iload_n hx hb dX2_max_19 rfl (lv_at hl 2 rfl) ?_
        refine lv_aload_n hx hb dX2_max_20 rfl (lv_at hl 0 rfl) ?_
        refine va_alen (v := nI 12) hx hb hK hP 0 0 rfl rfl rfl dX2_max_21 ?_
        refine lv_icmp_ge (tgt := 43) hx hb dX2_max_22 (by decide) (fun c_17 => ?_) (fun c_17 => ?_)
        · have hi : i = 12 := by have := (nI_leI (by decide) (by omega)).mp c_17; omega
          subst hi
          refine lv_lload_n hx hb dX2_max_43 rfl (lv_at hl 1 rfl) ?_
          have hP9 := hP.sub (ws' := [ld_A a0 d0 f]) [0] rfl
          have hD9 := hD.sub (ws' := [ld_A a0 d0 f]) [0] (by decide) rfl
          have hK9 := hK.sub (tys' := [(d0, .long)]) [0] rfl
          exact W.lret (v := (ld_mx f 12)) hx hb hr (fun t ht hW => ⟨⟨(ld_mx f 12), (), rfl, rfl, by rw [ht]; exact hP9, va_K.moved hW.alike hK9, hD9⟩, hS.F ht⟩) hS.2.2 dX2_max_44
        · have hi : i < 12 := by
            rcases Nat.lt_or_ge i 12 with z | z
            · exact z
            · exact absurd (nI_le z (by omega)) c_17
          refine lv_aload_n hx hb dX2_max_25 rfl (lv_at hl 0 rfl) ?_
          refine lv_iload_n hx hb dX2_max_26 rfl (lv_at hl 2 rfl) ?_
          refine ld_lald (n := 12) (f := f) (i := i) hx hb hK hP 0 0 rfl rfl hi (by decide) dX2_max_27 ?_
          refine lv_lload_n hx hb dX2_max_28 rfl (lv_at hl 1 rfl) ?_
          refine W.lcmp hx hb dX2_max_29 ?_
          refine lv_if_le (tgt := 37) hx hb dX2_max_30 (by decide) (fun c_18 => ?_) (fun c_18 => ?_)
          · have e3 : ld_mx f (i + 1) = ld_mx f i := ld_mx_f (Int64.not_lt.mpr ((lg_cmp_le _ _).mp c_18))
            refine lv_iinc (v := nI (i + 1)) (lv' := [(3, .int (nI (i + 1))), (0, .ref a0), (1, .long (ld_mx f i))]) hx hb dX2_max_37 hl (k := 2) rfl (ld_inc i) (by decide) rfl (fun ls hl => ?_)
            refine lv_goto (tgt := 19) hx hb dX2_max_40 (by decide) ?_
            exact ih (i + 1) (by omega) (by omega) ls (by rw [e3]; exact lv_sub hl [1, 2, 0] rfl)
          · have e3 : ld_mx f (i + 1) = f i := ld_mx_t (Int64.not_le.mp (fun z => c_18 ((lg_cmp_le _ _).mpr z)))
            refine lv_aload_n hx hb dX2_max_33 rfl (lv_at hl 0 rfl) ?_
            refine lv_iload_n hx hb dX2_max_34 rfl (lv_at hl 2 rfl) ?_
            refine ld_lald (n := 12) (f := f) (i := i) hx hb hK hP 0 0 rfl rfl hi (by decide) dX2_max_35 ?_
            refine lv_lstore_n (lv' := [(1, .long (f i)), (0, .ref a0), (3, .int (nI i))]) hx hb dX2_max_36 rfl hl (by decide) rfl (fun ls hl => ?_)
            refine lv_iinc (v := nI (i + 1)) (lv' := [(3, .int (nI (i + 1))), (1, .long (f i)), (0, .ref a0)]) hx hb dX2_max_37 hl (k := 2) rfl (ld_inc i) (by decide) rfl (fun ls hl => ?_)
            refine lv_goto (tgt := 19) hx hb dX2_max_40 (by decide) ?_
            exact ih (i + 1) (by omega) (by omega) ls (by rw [e3]; exact lv_sub hl [2, 1, 0] rfl)
    exact key 12 1 (by decide) (by decide) ls (lv_sub hl [2, 1, 0] rfl)
set_option maxHeartbeats 4000000 in
set_option maxRecDepth 100000 in
/-- Longs.min of the twelve -/
theorem metX2_min (l : Launch) (dC : Nat → ClassId) (dI : Nat → Nat → Nat) (sz : Nat) (d0 : ClassId) (a0 : Nat) (f : Nat → Int64) : Met l yX2_min (ws_ yX2_min cX2_min 4 (some .long)) ({ frames := 1, cells := 0, slots := 0, locals := 32 } : Room) (va_Pc [.ref a0] (fun U => ld_I dC dI sz [ld_A a0 d0 f] [(d0, .long)] U)) (va_Ql (fun (r : Int64) (_ : Unit) => r = ld_mn f 12) (ld_B dC dI (va_A [ld_A a0 d0 f] sz) (fun (_ : Unit) => [ld_A a0 d0 f]) [(d0, .long)]) (va_A [ld_A a0 d0 f] sz)) 0 0 (va_A [ld_A a0 d0 f] sz) := by
  refine Met.ofW (cc := cX2_min) (maxL := 4) (ret := (some .long)) (by decide) rfl ?_
  intro p e s m args below meth c s₁ B hml hv
  obtain ⟨rfl, hsz, hP, hK, hD0⟩ := hv
  have hx := B.exec
  have hb := B.bytes
  have hr := B.returns
  have hts := atoms_spec (ws := (ws_ yX2_min cX2_min 4 (some .long))) B.pre
  have hts : ∀ w ∈ lw_all, w.before _ s = true := fun w h => hts w (List.mem_cons_of_mem _ h)
  have hown : s.vm.findClass RX2 = some m.cls := findClass_of_methodNamed B.named
  have hlocks := B.notSynchronized
  subst hsz
  have hD := hD0.self (sz := s.heap.size)
  generalize hAe : va_A [ld_A a0 d0 f] s.heap.size = A at hD ⊢
  have hA : ∀ q : Nat, s.heap.size ≤ q → A q := fun q h => by rw [← hAe]; exact Or.inr h
  have hS : va_S A s.heap s.heap [] := va_S.rf
  have hP : va_P (dC, dI) ld_Cl [ld_A a0 d0 f] s.heap := hP
  have hl := lv_entry ([.ref a0]) (n := 4) (Nat.le_of_ble_eq_true rfl)
  rw [lg_entry_eq]
  generalize (lg_sl ([.ref a0]) ++ List.replicate (4 - (lg_sl ([.ref a0])).length) Slot.unset).toArray = ls at hl ⊢
  have hl : lv_has ls 4 [(0, .ref a0)] := hl
  refine lv_aload_n hx hb dX2_min_0 rfl (lv_at hl 0 rfl) ?_
  refine va_alen (v := nI 12) hx hb hK hP 0 0 rfl rfl rfl dX2_min_1 ?_
  refine lv_if_le (tgt := 9) hx hb dX2_min_2 (by decide) (fun c_19 => ?_) (fun c_19 => ?_)
  · exact absurd c_19 (by decide +kernel)
  · refine lv_iconst (v := nI 1) hx hb dX2_min_5 (by decide +kernel) ?_
    refine lv_goto (tgt := 10) hx hb dX2_min_6 (by decide) ?_
    have hPc := hP.sub (ws' := []) [] rfl
    have hDc := hD.sub (ws' := []) [] (by decide) rfl
    have hKc := hK.sub (tys' := []) [] rfl
    have hFc := va_free (wc := []) hD hS hA [] rfl
    refine va_callv (va_runS (As := [.int (nI 1)]) (rest := []) ⟨hx, hb, hml, hown, hts⟩ (metX3_checkArgument l dC dI s.heap.size) (va_cwS 1 hts (lw_S q174 q175 q8 q176) rfl rfl rfl (by decide +kernel) ⟨Nat.le_of_ble_eq_true rfl, Nat.le_of_ble_eq_true rfl⟩) ⟨fun a U g mk q => by obtain ⟨q0, q1, qP, qK, qD⟩ := q; exact ⟨q0, q1, qP, va_K.moved (u := U) (U := U.calling g mk a) (Vm.Alike.refl U.vm) qK, qD⟩, fun U hU hW => ⟨rfl, by rw [hU], by rw [hU]; exact hPc, va_K.moved hW.alike hKc, hDc.weaken (fun _ _ _ _ => trivial)⟩⟩ rfl rfl hl.1 rfl (lv_room (Nat.le_of_ble_eq_true rfl)) dX2_min_10 ⟨Nat.le_of_ble_eq_true rfl, Nat.le_of_ble_eq_true rfl⟩) hS (fun q _ h => hFc q h) hFc (fun u t H1 locs ht hvm hw hB hz1 hk1 hS => ?_)
    obtain ⟨hP1, hK1, hD1⟩ := hB
    rw [ht] at hP1
    have hK1 := va_K.moved hvm.symm hK1
    obtain ⟨hP, hD⟩ := va_join (wr := [ld_A a0 d0 f]) (w1 := []) hP hD [] [0] rfl rfl (by decide) (by decide) hk1 hFc hP1 hD1
    have hK := (hK.sub (tys' := [(d0, .long)]) [0] rfl).app hK1
    generalize H1 = H at hP hS ⊢
    have hP : va_P (dC, dI) ld_Cl [ld_A a0 d0 f] H := hP
    have hD : va_D A [ld_A a0 d0 f] := hD
    have hK : va_K (dC, dI) ld_Cl [(d0, .long)] s := hK
    refine lv_aload_n hx hb dX2_min_13 rfl (lv_at hl 0 rfl) ?_
    refine lv_iconst (v := nI 0) hx hb dX2_min_14 (by decide +kernel) ?_
    refine ld_lald (n := 12) (f := f) (i := 0) hx hb hK hP 0 0 rfl rfl (by decide) (by decide) dX2_min_15 ?_
    refine ld_topl (y := ld_mn f 1) (ld_mn1 f).symm ?_
    refine lv_lstore_n (lv' := [(1, .long (ld_mn f 1)), (0, .ref a0)]) hx hb dX2_min_16 rfl hl (by decide) rfl (fun ls hl => ?_)
    refine lv_iconst (v := nI 1) hx hb dX2_min_17 (by decide +kernel) ?_
    refine lv_istore_n (lv' := [(3, .int (nI 1)), (1, .long (ld_mn f 1)), (0, .ref a0)]) hx hb dX2_min_18 rfl hl (by decide) rfl (fun ls hl => ?_)
    have key : ∀ (n i : Nat), 12 < i + n → i ≤ 12 → ∀ (ls : Array Slot), lv_has ls 4 [(0, .ref a0), (1, .long (ld_mn f i)), (3, .int (nI i))] → W p l e (headSpec (ws_ yX2_min cX2_min 4 (some .long)) ({ frames := 1, cells := 0, slots := 0, locals := 32 } : Room)).room s m ([.ref a0] : List Value).toArray below meth c H locs (0 + 0) (0 + 0) (MQ below (va_Ql (fun (r : Int64) (_ : Unit) => r = ld_mn f 12) (ld_B dC dI A (fun (_ : Unit) => [ld_A a0 d0 f]) [(d0, .long)]) A) ([.ref a0] : List Value).toArray s 0 0 A) (F0 m 19 ls []) := by
      intro n
      induction n with
      | zero => intro i h1 h2; exact absurd h1 (by omega)
      | succ n ih =>
        intro i h1 h2 ls hl
        refine lv_iload_n hx hb dX2_min_19 rfl (lv_at hl 2 rfl) ?_
        refine lv_aload_n hx hb dX2_min_20 rfl (lv_at hl 0 rfl) ?_
        refine va_alen (v := nI 12) hx hb hK hP 0 0 rfl rfl rfl dX2_min_21 ?_
        refine lv_icmp_ge (tgt := 43) hx hb dX2_min_22 (by decide) (fun c_21 => ?_) (fun c_21 => ?_)
        · have hi : i = 12 := by have := (nI_leI (by decide) (by omega)).mp c_21; omega
          subst hi
          refine lv_lload_n hx hb dX2_min_43 rfl (lv_at hl 1 rfl) ?_
          have hP9 := hP.sub (ws' := [ld_A a0 d0 f]) [0] rfl
          have hD9 := hD.sub (ws' := [ld_A a0 d0 f]) [0] (by decide) rfl
          have hK9 := hK.sub (tys' := [(d0, .long)]) [0] rfl
          exact W.lret (v := (ld_mn f 12)) hx hb hr (fun t ht hW => ⟨⟨(ld_mn f 12), (), rfl, rfl, by rw [ht]; exact hP9, va_K.moved hW.alike hK9, hD9⟩, hS.F ht⟩) hS.2.2 dX2_min_44
        · have hi : i < 12 := by
            rcases Nat.lt_or_ge i 12 with z | z
            · exact z
            · exact absurd (nI_le z (by omega)) c_21
          refine lv_aload_n hx hb dX2_min_25 rfl (lv_at hl 0 rfl) ?_
          refine lv_iload_n hx hb dX2_min_26 rfl (lv_at hl 2 rfl) ?_
          refine ld_lald (n := 12) (f := f) (i := i) hx hb hK hP 0 0 rfl rfl hi (by decide) dX2_min_27 ?_
          refine lv_lload_n hx hb dX2_min_28 rfl (lv_at hl 1 rfl) ?_
          refine W.lcmp hx hb dX2_min_29 ?_
          refine lv_if_ge (tgt := 37) hx hb dX2_min_30 (by decide) (fun c_22 => ?_) (fun c_22 => ?_)
          · have e3 : ld_mn f (i + 1) = ld_mn f i := ld_mn_f (Int64.not_lt.mpr ((lg_cmp_ge _ _).mp c_22))
            refine lv_iinc (v := nI (i + 1)) (lv' := [(3, .int (nI (i + 1))), (0, .ref a0), (1, .long (ld_mn f i))]) hx hb dX2_min_37 hl (k := 2) rfl (ld_inc i) (by decide) rfl (fun ls hl => ?_)
            refine lv_goto (tgt := 19) hx hb dX2_min_40 (by decide) ?_
            exact ih (i + 1) (by omega) (by omega) ls (by rw [e3]; exact lv_sub hl [1, 2, 0] rfl)
          · have e3 : ld_mn f (i + 1) = f i := ld_mn_t (Int64.not_le.mp (fun z => c_22 ((lg_cmp_ge _ _).mpr z)))
            refine lv_aload_n hx hb dX2_min_33 rfl (lv_at hl 0 rfl) ?_
            refine lv_iload_n hx hb dX2_min_34 rfl (lv_at hl 2 rfl) ?_
            refine ld_lald (n := 12) (f := f) (i := i) hx hb hK hP 0 0 rfl rfl hi (by decide) dX2_min_35 ?_
            refine lv_lstore_n (lv' := [(1, .long (f i)), (0, .ref a0), (3, .int (nI i))]) hx hb dX2_min_36 rfl hl (by decide) rfl (fun ls hl => ?_)
            refine lv_iinc (v := nI (i + 1)) (lv' := [(3, .int (nI (i + 1))), (1, .long (f i)), (0, .ref a0)]) hx hb dX2_min_37 hl (k := 2) rfl (ld_inc i) (by decide) rfl (fun ls hl => ?_)
            refine lv_goto (tgt := 19) hx hb dX2_min_40 (by decide) ?_
            exact ih (i + 1) (by omega) (by omega) ls (by rw [e3]; exact lv_sub hl [2, 1, 0] rfl)
    exact key 12 1 (by decide) (by decide) ls (lv_sub hl [2, 1, 0] rfl)
set_option maxHeartbeats 4000000 in
set_option maxRecDepth 100000 in
/-- Longs.constrainToRange, the range in order -/
theorem metX2_constrainToRange (l : Launch) (dC : Nat → ClassId) (dI : Nat → Nat → Nat) (sz : Nat) (qs : Nat) (v a b : Int64) (hab : a ≤ b) : Met l yX2_constrainToRange (ws_ yX2_constrainToRange cX2_constrainToRange 6 (some .long)) ({ frames := 1, cells := 0, slots := 0, locals := 40 } : Room) (va_Pc [.long v, .long a, .long b] (fun U => ld_I dC dI sz [] [] U ∧ vk_R "Longs" 16 ld_tx qs U)) (va_Ql (fun (r : Int64) (_ : Unit) => r = if b < (if a < v then v else a) then b else (if a < v then v else a)) (ld_B dC dI (va_A [] sz) (fun (_ : Unit) => []) []) (va_A [] sz)) 0 0 (va_A [] sz) := by
  refine Met.ofW (cc := cX2_constrainToRange) (maxL := 6) (ret := (some .long)) (by decide) rfl ?_
  intro p e s m args below meth c s₁ B hml hv
  obtain ⟨rfl, ⟨hsz, hP, hK, hD0⟩, hZ⟩ := hv
  have hx := B.exec
  have hb := B.bytes
  have hr := B.returns
  have hts := atoms_spec (ws := (ws_ yX2_constrainToRange cX2_constrainToRange 6 (some .long))) B.pre
  have hts : ∀ w ∈ lw_all, w.before _ s = true := fun w h => hts w (List.mem_cons_of_mem _ h)
  have hown : s.vm.findClass RX2 = some m.cls := findClass_of_methodNamed B.named
  have hlocks := B.notSynchronized
  subst hsz
  have hD := hD0.self (sz := s.heap.size)
  generalize hAe : va_A [] s.heap.size = A at hD ⊢
  have hA : ∀ q : Nat, s.heap.size ≤ q → A q := fun q h => by rw [← hAe]; exact Or.inr h
  have hS : va_S A s.heap s.heap [] := va_S.rf
  have hP : va_P (dC, dI) ld_Cl [] s.heap := hP
  have hl := lv_entry ([.long v, .long a, .long b]) (n := 6) (Nat.le_of_ble_eq_true rfl)
  rw [lg_entry_eq]
  generalize (lg_sl ([.long v, .long a, .long b]) ++ List.replicate (6 - (lg_sl ([.long v, .long a, .long b])).length) Slot.unset).toArray = ls at hl ⊢
  have hl : lv_has ls 6 [(0, .long v), (2, .long a), (4, .long b)] := hl
  refine lv_lload_n hx hb dX2_constrainToRange_0 rfl (lv_at hl 1 rfl) ?_
  refine lv_lload hx hb dX2_constrainToRange_1 (lv_at hl 2 rfl) ?_
  refine W.lcmp hx hb dX2_constrainToRange_3 ?_
  refine lv_if_gt (tgt := 11) hx hb dX2_constrainToRange_4 (by decide) (fun c_23 => ?_) (fun c_23 => ?_)
  · exact absurd ((lg_cmp_gt _ _).mp c_23) (Int64.not_lt.mpr hab)
  · refine lv_iconst (v := nI 1) hx hb dX2_constrainToRange_7 (by decide +kernel) ?_
    refine lv_goto (tgt := 12) hx hb dX2_constrainToRange_8 (by decide) ?_
    refine va_ldcS hx hb hown hZ dX2_constrainToRange_12 ?_
    refine lv_lload_n hx hb dX2_constrainToRange_14 rfl (lv_at hl 1 rfl) ?_
    refine lv_lload hx hb dX2_constrainToRange_15 (lv_at hl 2 rfl) ?_
    have hPc := hP.sub (ws' := []) [] rfl
    have hDc := hD.sub (ws' := []) [] (by decide) rfl
    have hKc := hK.sub (tys' := []) [] rfl
    have hFc := va_free (wc := []) hD hS hA [] rfl
    refine va_callv (va_runS (As := [.int (nI 1), .ref qs, .long a, .long b]) (rest := []) ⟨hx, hb, hml, hown, hts⟩ (metX3_checkArgument_2 l dC dI s.heap.size qs a b) (va_cwS 4 hts (lw_S q249 q250 q8 q251) rfl rfl rfl (by decide +kernel) ⟨Nat.le_of_ble_eq_true rfl, Nat.le_of_ble_eq_true rfl⟩) ⟨fun a U g mk q => by obtain ⟨q0, q1, qP, qK, qD⟩ := q; exact ⟨q0, q1, qP, va_K.moved (u := U) (U := U.calling g mk a) (Vm.Alike.refl U.vm) qK, qD⟩, fun U hU hW => ⟨rfl, by rw [hU], by rw [hU]; exact hPc, va_K.moved hW.alike hKc, hDc.weaken (fun _ _ _ _ => trivial)⟩⟩ rfl rfl hl.1 rfl (lv_room (Nat.le_of_ble_eq_true rfl)) dX2_constrainToRange_17 ⟨Nat.le_of_ble_eq_true rfl, Nat.le_of_ble_eq_true rfl⟩) hS (fun q _ h => hFc q h) hFc (fun u t H1 locs ht hvm hw hB hz1 hk1 hS => ?_)
    obtain ⟨hP1, hK1, hD1⟩ := hB
    rw [ht] at hP1
    have hK1 := va_K.moved hvm.symm hK1
    obtain ⟨hP, hD⟩ := va_join (wr := []) (w1 := []) hP hD [] [] rfl rfl (by decide) (by decide) hk1 hFc hP1 hD1
    have hK := (hK.sub (tys' := []) [] rfl).app hK1
    generalize H1 = H at hP hS ⊢
    have hP : va_P (dC, dI) ld_Cl [] H := hP
    have hD : va_D A [] := hD
    have hK : va_K (dC, dI) ld_Cl [] s := hK
    refine lv_lload_n hx hb dX2_constrainToRange_20 rfl (lv_at hl 0 rfl) ?_
    refine lv_lload_n hx hb dX2_constrainToRange_21 rfl (lv_at hl 1 rfl) ?_
    refine va_mmax_long hx hb (by rw [hml]; exact hl.1.symm) hown (hts _ q256) (hts _ q257) (hts _ q15) (hts _ q258) (Nat.le_of_ble_eq_true rfl) (Nat.le_of_ble_eq_true rfl) (Nat.le_of_ble_eq_true rfl) (Nat.le_of_ble_eq_true rfl) dX2_constrainToRange_22 ?_
    refine lv_lload hx hb dX2_constrainToRange_25 (lv_at hl 2 rfl) ?_
    refine va_mmin_long hx hb (by rw [hml]; exact hl.1.symm) hown (hts _ q259) (hts _ q260) (hts _ q15) (hts _ q261) (Nat.le_of_ble_eq_true rfl) (Nat.le_of_ble_eq_true rfl) (Nat.le_of_ble_eq_true rfl) (Nat.le_of_ble_eq_true rfl) dX2_constrainToRange_27 ?_
    have hP9 := hP.sub (ws' := []) [] rfl
    have hD9 := hD.sub (ws' := []) [] (by decide) rfl
    have hK9 := hK.sub (tys' := []) [] rfl
    exact W.lret (v := (if b < ((if a < v then v else a)) then b else ((if a < v then v else a)))) hx hb hr (fun t ht hW => ⟨⟨(if b < ((if a < v then v else a)) then b else ((if a < v then v else a))), (), rfl, rfl, by rw [ht]; exact hP9, va_K.moved hW.alike hK9, hD9⟩, hS.F ht⟩) hS.2.2 dX2_constrainToRange_30
end
section
/-! Longs: toByteArray, fromBytes, reverse -/
set_option maxRecDepth 100000
set_option maxHeartbeats 4000000 in
set_option maxRecDepth 100000 in
/-- Longs.toByteArray: eight bytes, the highest first -/
theorem metX2_toByteArray (l : Launch) (dC : Nat → ClassId) (dI : Nat → Nat → Nat) (sz : Nat) (v : Int64) : Met l yX2_toByteArray (ws_ yX2_toByteArray cX2_toByteArray 4 (some (.array .byte))) ({ frames := 0, cells := 1, slots := 8, locals := 0 } : Room) (va_Pc [.long v] (fun U => ld_I dC dI sz [] [] U)) (va_Qr (fun (g : Nat → Int32) => ∀ j, j < 8 → g j &&& nI 255 = nI (ld_b8 v j)) (fun (g : Nat → Int32) (ra : Nat) (t : State) => ∃ db : ClassId, ld_B dC dI (va_A [] sz) (fun (_ : Unit) => [(ra, .inl (db, 8, .inl g))]) [(db, .byte)] () t) (va_A [] sz)) 1 8 (va_A [] sz) := by
  refine Met.ofW (cc := cX2_toByteArray) (maxL := 4) (ret := (some (.array .byte))) (by decide) rfl ?_
  intro p e s m args below meth c s₁ B hml hv
  obtain ⟨rfl, hsz, hP, hK, hD0⟩ := hv
  have hx := B.exec
  have hb := B.bytes
  have hr := B.returns
  have hts := atoms_spec (ws := (ws_ yX2_toByteArray cX2_toByteArray 4 (some (.array .byte)))) B.pre
  have hts : ∀ w ∈ lw_all, w.before _ s = true := fun w h => hts w (List.mem_cons_of_mem _ h)
  have hown : s.vm.findClass RX2 = some m.cls := findClass_of_methodNamed B.named
  have hlocks := B.notSynchronized
  subst hsz
  have hD := hD0.self (sz := s.heap.size)
  generalize hAe : va_A [] s.heap.size = A at hD ⊢
  have hA : ∀ q : Nat, s.heap.size ≤ q → A q := fun q h => by rw [← hAe]; exact Or.inr h
  have hS : va_S A s.heap s.heap [] := va_S.rf
  have hP : va_P (dC, dI) ld_Cl [] s.heap := hP
  have hl := lv_entry ([.long v]) (n := 4) (Nat.le_of_ble_eq_true rfl)
  rw [lg_entry_eq]
  generalize (lg_sl ([.long v]) ++ List.replicate (4 - (lg_sl ([.long v])).length) Slot.unset).toArray = ls at hl ⊢
  have hl : lv_has ls 4 [(0, .long v)] := hl
  refine lv_bipush (v := nI 8) hx hb dX2_toByteArray_0 (by decide +kernel) ?_
  refine va_newa (atype := .byte) (ty := .byte) (N' := 8) (a0 := (8, .inl (fun _ => 0))) hx hb (hts _ q166) rfl hK hP hD hS hA (fun _ => rfl) (by decide +kernel) (by decide +kernel) (Nat.le_of_ble_eq_true rfl) (Nat.le_of_ble_eq_true rfl) (Nat.le_of_ble_eq_true rfl) dX2_toByteArray_2 (fun q db H hK hP hD hS => ?_)
  have hP : va_P (dC, dI) ld_Cl [(q, .inl (db, 8, .inl (fun _ => 0)))] H := hP
  have hD : va_D A [(q, .inl (db, 8, .inl (fun _ => 0)))] := hD
  have hK : va_K (dC, dI) ld_Cl [(db, .byte)] s := hK
  refine lv_astore_n (lv' := [(2, .ref q), (0, .long v)]) hx hb dX2_toByteArray_4 rfl hl (by decide) rfl (fun ls hl => ?_)
  refine lv_bipush (v := nI 7) hx hb dX2_toByteArray_5 (by decide +kernel) ?_
  refine lv_istore_n (lv' := [(3, .int (nI 7)), (2, .ref q), (0, .long v)]) hx hb dX2_toByteArray_7 rfl hl (by decide) rfl (fun ls hl => ?_)
  have key : ∀ (i : Nat), i ≤ 8 → ∀ (x : Int64) (g : Nat → Int32), ld_sh v x i → (∀ j, i ≤ j → j < 8 → g j &&& nI 255 = nI (ld_b8 v j)) → ∀ (H : Heap) (locs : List Loc), va_P (dC, dI) ld_Cl [(q, .inl (db, 8, .inl g))] H → va_D A [(q, .inl (db, 8, .inl g))] → va_S A s.heap H locs → ∀ (ls : Array Slot), lv_has ls 4 [(0, .long x), (2, .ref q), (3, .int (ld_dn i))] → W p l e (headSpec (ws_ yX2_toByteArray cX2_toByteArray 4 (some (.array .byte))) ({ frames := 0, cells := 1, slots := 8, locals := 0 } : Room)).room s m ([.long v] : List Value).toArray below meth c H locs (0 + 1) (0 + 8) (MQ below (va_Qr (fun (g : Nat → Int32) => ∀ j, j < 8 → g j &&& nI 255 = nI (ld_b8 v j)) (fun (g : Nat → Int32) (ra : Nat) (t : State) => ∃ db : ClassId, ld_B dC dI A (fun (_ : Unit) => [(ra, .inl (db, 8, .inl g))]) [(db, .byte)] () t) A) ([.long v] : List Value).toArray s 1 8 A) (F0 m 8 ls []) := by
    intro i
    induction i with
    | zero =>
      intro h2 x g h3 h4 H locs hP hD hS ls hl
      refine lv_iload_n hx hb dX2_toByteArray_8 rfl (lv_at hl 2 rfl) ?_
      refine lv_if_lt (tgt := 33) hx hb dX2_toByteArray_9 (by decide) (fun c_25 => ?_) (fun c_25 => ?_)
      · refine lv_aload_n hx hb dX2_toByteArray_33 rfl (lv_at hl 1 rfl) ?_
        have hP9 := hP.sub (ws' := [(q, .inl (db, 8, .inl g))]) [0] rfl
        have hD9 := hD.sub (ws' := [(q, .inl (db, 8, .inl g))]) [0] (by decide) rfl
        have hK9 := hK.sub (tys' := [(db, .byte)]) [0] rfl
        exact W.aret (v := .ref q) hx hb hr (Or.inr ⟨_, rfl⟩) (Or.inr ⟨_, rfl⟩) (fun t ht hW => ⟨⟨g, q, rfl, fun j hj => h4 j (Nat.zero_le j) hj, ⟨db, by rw [ht]; exact hP9, va_K.moved hW.alike hK9, hD9⟩⟩, hS.F ht⟩) hS.2.2 dX2_toByteArray_34
      · exact absurd ((ld_dn_neg (by decide)).mpr rfl) c_25
    | succ i ih =>
      intro h2 x g h3 h4 H locs hP hD hS ls hl
      rw [ld_dns] at hl
      refine lv_iload_n hx hb dX2_toByteArray_8 rfl (lv_at hl 2 rfl) ?_
      refine lv_if_lt (tgt := 33) hx hb dX2_toByteArray_9 (by decide) (fun c_26 => ?_) (fun c_26 => ?_)
      · exact absurd c_26 (nI_pos (by omega))
      · refine lv_aload_n hx hb dX2_toByteArray_12 rfl (lv_at hl 1 rfl) ?_
        refine lv_iload_n hx hb dX2_toByteArray_13 rfl (lv_at hl 2 rfl) ?_
        refine lv_lload_n hx hb dX2_toByteArray_14 rfl (lv_at hl 0 rfl) ?_
        refine lv_ldc2 hx hb hown (hts _ q233) dX2_toByteArray_15 ?_
        refine lv_land hx hb dX2_toByteArray_18 ?_
        refine lv_l2i hx hb dX2_toByteArray_19 rfl ?_
        refine lv_i2b hx hb dX2_toByteArray_20 rfl ?_
        refine ld_bast (n := 8) (f := g) (i := i) hx hb hK hP hD hS 0 0 rfl rfl (by omega) (by decide) dX2_toByteArray_21 (fun H locs hP hD hS => ?_)
        have hP : va_P (dC, dI) ld_Cl [(q, .inl (db, 8, .inl (upd g i (x &&& 255).toInt32.toInt8.toInt32)))] H := hP
        have hD : va_D A [(q, .inl (db, 8, .inl (upd g i (x &&& 255).toInt32.toInt8.toInt32)))] := hD
        refine lv_lload_n hx hb dX2_toByteArray_22 rfl (lv_at hl 0 rfl) ?_
        refine lv_bipush (v := nI 8) hx hb dX2_toByteArray_23 (by decide +kernel) ?_
        refine lv_lshr hx hb dX2_toByteArray_25 rfl ?_
        refine lv_lstore_n (lv' := [(0, .long (x >>> (((nI 8)).toInt64 &&& 63))), (2, .ref q), (3, .int (nI i))]) hx hb dX2_toByteArray_26 rfl hl (by decide) rfl (fun ls hl => ?_)
        refine lv_iinc (v := ld_dn i) (lv' := [(3, .int (ld_dn i)), (0, .long (x >>> (((nI 8)).toInt64 &&& 63))), (2, .ref q)]) hx hb dX2_toByteArray_27 hl (k := 2) rfl (ld_dec i) (by decide) rfl (fun ls hl => ?_)
        refine lv_goto (tgt := 8) hx hb dX2_toByteArray_30 (by decide) ?_
        have h5 : ∀ j, i ≤ j → j < 8 → upd g i (x &&& 255).toInt32.toInt8.toInt32 j &&& nI 255 = nI (ld_b8 v j) := by
          intro j h6 h7
          rcases Nat.eq_or_lt_of_le h6 with z | z
          · subst z
            rw [pk_us]
            exact ld_sh_put (by omega) h3
          · rw [pk_un (by omega)]
            exact h4 j z h7
        exact ih (by omega) _ _ (ld_sh_s (by omega) h3) h5 _ _ hP hD hS ls (lv_sub hl [1, 2, 0] rfl)
  exact key 8 (by decide) v _ (ld_sh_0 v) (fun j h1 h2 => absurd h2 (Nat.not_lt.mpr h1)) _ _ hP hD hS ls (by rw [show ld_dn 8 = nI 7 from ld_dns 7]; exact lv_sub hl [2, 1, 0] rfl)
set_option maxHeartbeats 4000000 in
set_option maxRecDepth 100000 in
/-- Longs.fromBytes -/
theorem metX2_fromBytes (l : Launch) (dC : Nat → ClassId) (dI : Nat → Nat → Nat) (sz : Nat) (y0 y1 y2 y3 y4 y5 y6 y7 : Int32) : Met l yX2_fromBytes (ws_ yX2_fromBytes cX2_fromBytes 8 (some .long)) ({ frames := 0, cells := 0, slots := 0, locals := 0 } : Room) (va_Pc [.int y0, .int y1, .int y2, .int y3, .int y4, .int y5, .int y6, .int y7] (fun U => ld_I dC dI sz [] [] U)) (va_Ql (fun (r : Int64) (_ : Unit) => r = lN (ld_fb (y0.toBitVec.toNat % 256) (y1.toBitVec.toNat % 256) (y2.toBitVec.toNat % 256) (y3.toBitVec.toNat % 256) (y4.toBitVec.toNat % 256) (y5.toBitVec.toNat % 256) (y6.toBitVec.toNat % 256) (y7.toBitVec.toNat % 256))) (ld_B dC dI (va_A [] sz) (fun (_ : Unit) => []) []) (va_A [] sz)) 0 0 (va_A [] sz) := by
  refine Met.ofW (cc := cX2_fromBytes) (maxL := 8) (ret := (some .long)) (by decide) rfl ?_
  intro p e s m args below meth c s₁ B hml hv
  obtain ⟨rfl, hsz, hP, hK, hD0⟩ := hv
  have hx := B.exec
  have hb := B.bytes
  have hr := B.returns
  have hts := atoms_spec (ws := (ws_ yX2_fromBytes cX2_fromBytes 8 (some .long))) B.pre
  have hts : ∀ w ∈ lw_all, w.before _ s = true := fun w h => hts w (List.mem_cons_of_mem _ h)
  have hown : s.vm.findClass RX2 = some m.cls := findClass_of_methodNamed B.named
  have hlocks := B.notSynchronized
  subst hsz
  have hD := hD0.self (sz := s.heap.size)
  generalize hAe : va_A [] s.heap.size = A at hD ⊢
  have hA : ∀ q : Nat, s.heap.size ≤ q → A q := fun q h => by rw [← hAe]; exact Or.inr h
  have hS : va_S A s.heap s.heap [] := va_S.rf
  have hP : va_P (dC, dI) ld_Cl [] s.heap := hP
  have hl := lv_entry ([.int y0, .int y1, .int y2, .int y3, .int y4, .int y5, .int y6, .int y7]) (n := 8) (Nat.le_of_ble_eq_true rfl)
  rw [lg_entry_eq]
  generalize (lg_sl ([.int y0, .int y1, .int y2, .int y3, .int y4, .int y5, .int y6, .int y7]) ++ List.replicate (8 - (lg_sl ([.int y0, .int y1, .int y2, .int y3, .int y4, .int y5, .int y6, .int y7])).length) Slot.unset).toArray = ls at hl ⊢
  have hl : lv_has ls 8 [(0, .int y0), (1, .int y1), (2, .int y2), (3, .int y3), (4, .int y4), (5, .int y5), (6, .int y6), (7, .int y7)] := hl
  refine lv_iload_n hx hb dX2_fromBytes_0 rfl (lv_at hl 0 rfl) ?_
  refine lv_i2l hx hb dX2_fromBytes_1 rfl ?_
  refine lv_ldc2 hx hb hown (hts _ q233) dX2_fromBytes_2 ?_
  refine lv_land hx hb dX2_fromBytes_5 ?_
  refine ld_topl (y := lN (y0.toBitVec.toNat % 256)) (ld_by8 y0) ?_
  refine lv_bipush (v := nI 56) hx hb dX2_fromBytes_6 (by decide +kernel) ?_
  refine lv_lshl hx hb dX2_fromBytes_8 rfl ?_
  refine ld_topl (y := lN ((y0.toBitVec.toNat % 256) * 2 ^ 56)) (wb_shl _ (by decide)) ?_
  refine lv_iload_n hx hb dX2_fromBytes_9 rfl (lv_at hl 1 rfl) ?_
  refine lv_i2l hx hb dX2_fromBytes_10 rfl ?_
  refine lv_ldc2 hx hb hown (hts _ q233) dX2_fromBytes_11 ?_
  refine lv_land hx hb dX2_fromBytes_14 ?_
  refine ld_topl (y := lN (y1.toBitVec.toNat % 256)) (ld_by8 y1) ?_
  refine lv_bipush (v := nI 48) hx hb dX2_fromBytes_15 (by decide +kernel) ?_
  refine lv_lshl hx hb dX2_fromBytes_17 rfl ?_
  refine ld_topl (y := lN ((y1.toBitVec.toNat % 256) * 2 ^ 48)) (wb_shl _ (by decide)) ?_
  refine lv_lor hx hb dX2_fromBytes_18 ?_
  refine ld_topl (y := lN ((y0.toBitVec.toNat % 256) * 2 ^ 56 + (y1.toBitVec.toNat % 256) * 2 ^ 48)) (ld_or 56 (by omega) (by omega) (by omega) rfl) ?_
  refine lv_iload_n hx hb dX2_fromBytes_19 rfl (lv_at hl 2 rfl) ?_
  refine lv_i2l hx hb dX2_fromBytes_20 rfl ?_
  refine lv_ldc2 hx hb hown (hts _ q233) dX2_fromBytes_21 ?_
  refine lv_land hx hb dX2_fromBytes_24 ?_
  refine ld_topl (y := lN (y2.toBitVec.toNat % 256)) (ld_by8 y2) ?_
  refine lv_bipush (v := nI 40) hx hb dX2_fromBytes_25 (by decide +kernel) ?_
  refine lv_lshl hx hb dX2_fromBytes_27 rfl ?_
  refine ld_topl (y := lN ((y2.toBitVec.toNat % 256) * 2 ^ 40)) (wb_shl _ (by decide)) ?_
  refine lv_lor hx hb dX2_fromBytes_28 ?_
  refine ld_topl (y := lN ((y0.toBitVec.toNat % 256) * 2 ^ 56 + (y1.toBitVec.toNat % 256) * 2 ^ 48 + (y2.toBitVec.toNat % 256) * 2 ^ 40)) (ld_or 48 (by omega) (by omega) (by omega) rfl) ?_
  refine lv_iload_n hx hb dX2_fromBytes_29 rfl (lv_at hl 3 rfl) ?_
  refine lv_i2l hx hb dX2_fromBytes_30 rfl ?_
  refine lv_ldc2 hx hb hown (hts _ q233) dX2_fromBytes_31 ?_
  refine lv_land hx hb dX2_fromBytes_34 ?_
  refine ld_topl (y := lN (y3.toBitVec.toNat % 256)) (ld_by8 y3) ?_
  refine lv_bipush (v := nI 32) hx hb dX2_fromBytes_35 (by decide +kernel) ?_
  refine lv_lshl hx hb dX2_fromBytes_37 rfl ?_
  refine ld_topl (y := lN ((y3.toBitVec.toNat % 256) * 2 ^ 32)) (wb_shl _ (by decide)) ?_
  refine lv_lor hx hb dX2_fromBytes_38 ?_
  refine ld_topl (y := lN ((y0.toBitVec.toNat % 256) * 2 ^ 56 + (y1.toBitVec.toNat % 256) * 2 ^ 48 + (y2.toBitVec.toNat % 256) * 2 ^ 40 + (y3.toBitVec.toNat % 256) * 2 ^ 32)) (ld_or 40 (by omega) (by omega) (by omega) rfl) ?_
  refine lv_iload hx hb dX2_fromBytes_39 (lv_at hl 4 rfl) ?_
  refine lv_i2l hx hb dX2_fromBytes_41 rfl ?_
  refine lv_ldc2 hx hb hown (hts _ q233) dX2_fromBytes_42 ?_
  refine lv_land hx hb dX2_fromBytes_45 ?_
  refine ld_topl (y := lN (y4.toBitVec.toNat % 256)) (ld_by8 y4) ?_
  refine lv_bipush (v := nI 24) hx hb dX2_fromBytes_46 (by decide +kernel) ?_
  refine lv_lshl hx hb dX2_fromBytes_48 rfl ?_
  refine ld_topl (y := lN ((y4.toBitVec.toNat % 256) * 2 ^ 24)) (wb_shl _ (by decide)) ?_
  refine lv_lor hx hb dX2_fromBytes_49 ?_
  refine ld_topl (y := lN ((y0.toBitVec.toNat % 256) * 2 ^ 56 + (y1.toBitVec.toNat % 256) * 2 ^ 48 + (y2.toBitVec.toNat % 256) * 2 ^ 40 + (y3.toBitVec.toNat % 256) * 2 ^ 32 + (y4.toBitVec.toNat % 256) * 2 ^ 24)) (ld_or 32 (by omega) (by omega) (by omega) rfl) ?_
  refine lv_iload hx hb dX2_fromBytes_50 (lv_at hl 5 rfl) ?_
  refine lv_i2l hx hb dX2_fromBytes_52 rfl ?_
  refine lv_ldc2 hx hb hown (hts _ q233) dX2_fromBytes_53 ?_
  refine lv_land hx hb dX2_fromBytes_56 ?_
  refine ld_topl (y := lN (y5.toBitVec.toNat % 256)) (ld_by8 y5) ?_
  refine lv_bipush (v := nI 16) hx hb dX2_fromBytes_57 (by decide +kernel) ?_
  refine lv_lshl hx hb dX2_fromBytes_59 rfl ?_
  refine ld_topl (y := lN ((y5.toBitVec.toNat % 256) * 2 ^ 16)) (wb_shl _ (by decide)) ?_
  refine lv_lor hx hb dX2_fromBytes_60 ?_
  refine ld_topl (y := lN ((y0.toBitVec.toNat % 256) * 2 ^ 56 + (y1.toBitVec.toNat % 256) * 2 ^ 48 + (y2.toBitVec.toNat % 256) * 2 ^ 40 + (y3.toBitVec.toNat % 256) * 2 ^ 32 + (y4.toBitVec.toNat % 256) * 2 ^ 24 + (y5.toBitVec.toNat % 256) * 2 ^ 16)) (ld_or 24 (by omega) (by omega) (by omega) rfl) ?_
  refine lv_iload hx hb dX2_fromBytes_61 (lv_at hl 6 rfl) ?_
  refine lv_i2l hx hb dX2_fromBytes_63 rfl ?_
  refine lv_ldc2 hx hb hown (hts _ q233) dX2_fromBytes_64 ?_
  refine lv_land hx hb dX2_fromBytes_67 ?_
  refine ld_topl (y := lN (y6.toBitVec.toNat % 256)) (ld_by8 y6) ?_
  refine lv_bipush (v := nI 8) hx hb dX2_fromBytes_68 (by decide +kernel) ?_
  refine lv_lshl hx hb dX2_fromBytes_70 rfl ?_
  refine ld_topl (y := lN ((y6.toBitVec.toNat % 256) * 2 ^ 8)) (wb_shl _ (by decide)) ?_
  refine lv_lor hx hb dX2_fromBytes_71 ?_
  refine ld_topl (y := lN ((y0.toBitVec.toNat % 256) * 2 ^ 56 + (y1.toBitVec.toNat % 256) * 2 ^ 48 + (y2.toBitVec.toNat % 256) * 2 ^ 40 + (y3.toBitVec.toNat % 256) * 2 ^ 32 + (y4.toBitVec.toNat % 256) * 2 ^ 24 + (y5.toBitVec.toNat % 256) * 2 ^ 16 + (y6.toBitVec.toNat % 256) * 2 ^ 8)) (ld_or 16 (by omega) (by omega) (by omega) rfl) ?_
  refine lv_iload hx hb dX2_fromBytes_72 (lv_at hl 7 rfl) ?_
  refine lv_i2l hx hb dX2_fromBytes_74 rfl ?_
  refine lv_ldc2 hx hb hown (hts _ q233) dX2_fromBytes_75 ?_
  refine lv_land hx hb dX2_fromBytes_78 ?_
  refine ld_topl (y := lN (y7.toBitVec.toNat % 256)) (ld_by8 y7) ?_
  refine lv_lor hx hb dX2_fromBytes_79 ?_
  refine ld_topl (y := lN ((y0.toBitVec.toNat % 256) * 2 ^ 56 + (y1.toBitVec.toNat % 256) * 2 ^ 48 + (y2.toBitVec.toNat % 256) * 2 ^ 40 + (y3.toBitVec.toNat % 256) * 2 ^ 32 + (y4.toBitVec.toNat % 256) * 2 ^ 24 + (y5.toBitVec.toNat % 256) * 2 ^ 16 + (y6.toBitVec.toNat % 256) * 2 ^ 8 + (y7.toBitVec.toNat % 256))) (ld_or 8 (by omega) (by omega) (by omega) rfl) ?_
  have hP9 := hP.sub (ws' := []) [] rfl
  have hD9 := hD.sub (ws' := []) [] (by decide) rfl
  have hK9 := hK.sub (tys' := []) [] rfl
  exact W.lret (v := (lN ((y0.toBitVec.toNat % 256) * 2 ^ 56 + (y1.toBitVec.toNat % 256) * 2 ^ 48 + (y2.toBitVec.toNat % 256) * 2 ^ 40 + (y3.toBitVec.toNat % 256) * 2 ^ 32 + (y4.toBitVec.toNat % 256) * 2 ^ 24 + (y5.toBitVec.toNat % 256) * 2 ^ 16 + (y6.toBitVec.toNat % 256) * 2 ^ 8 + (y7.toBitVec.toNat % 256)))) hx hb hr (fun t ht hW => ⟨⟨(lN ((y0.toBitVec.toNat % 256) * 2 ^ 56 + (y1.toBitVec.toNat % 256) * 2 ^ 48 + (y2.toBitVec.toNat % 256) * 2 ^ 40 + (y3.toBitVec.toNat % 256) * 2 ^ 32 + (y4.toBitVec.toNat % 256) * 2 ^ 24 + (y5.toBitVec.toNat % 256) * 2 ^ 16 + (y6.toBitVec.toNat % 256) * 2 ^ 8 + (y7.toBitVec.toNat % 256))), (), rfl, rfl, by rw [ht]; exact hP9, va_K.moved hW.alike hK9, hD9⟩, hS.F ht⟩) hS.2.2 dX2_fromBytes_80
set_option maxHeartbeats 4000000 in
set_option maxRecDepth 100000 in
/-- Longs.reverse between a and b -/
theorem metX2_reverse (l : Launch) (dC : Nat → ClassId) (dI : Nat → Nat → Nat) (sz : Nat) (d0 : ClassId) (a0 : Nat) (f : Nat → Int64) (a b : Nat) (hab : a ≤ b) (h12 : b ≤ 12) : Met l yX2_reverse (ws_ yX2_reverse cX2_reverse 7 none) ({ frames := 1, cells := 0, slots := 0, locals := 32 } : Room) (va_Pc [.ref a0, .int (nI a), .int (nI b)] (fun U => ld_I dC dI sz [ld_A a0 d0 f] [(d0, .long)] U)) (va_Qv (fun (g : Nat → Int64) => ∀ j, j < 12 → g j = ld_rv f a b j) (ld_B dC dI (va_A [ld_A a0 d0 f] sz) (fun (g : Nat → Int64) => [ld_A a0 d0 g]) [(d0, .long)]) (va_A [ld_A a0 d0 f] sz)) 0 0 (va_A [ld_A a0 d0 f] sz) := by
  refine Met.ofW (cc := cX2_reverse) (maxL := 7) (ret := none) (by decide) rfl ?_
  intro p e s m args below meth c s₁ B hml hv
  obtain ⟨rfl, hsz, hP, hK, hD0⟩ := hv
  have hx := B.exec
  have hb := B.bytes
  have hr := B.returns
  have hts := atoms_spec (ws := (ws_ yX2_reverse cX2_reverse 7 none)) B.pre
  have hts : ∀ w ∈ lw_all, w.before _ s = true := fun w h => hts w (List.mem_cons_of_mem _ h)
  have hown : s.vm.findClass RX2 = some m.cls := findClass_of_methodNamed B.named
  have hlocks := B.notSynchronized
  subst hsz
  have hD := hD0.self (sz := s.heap.size)
  generalize hAe : va_A [ld_A a0 d0 f] s.heap.size = A at hD ⊢
  have hA : ∀ q : Nat, s.heap.size ≤ q → A q := fun q h => by rw [← hAe]; exact Or.inr h
  have hS : va_S A s.heap s.heap [] := va_S.rf
  have hP : va_P (dC, dI) ld_Cl [ld_A a0 d0 f] s.heap := hP
  have hl := lv_entry ([.ref a0, .int (nI a), .int (nI b)]) (n := 7) (Nat.le_of_ble_eq_true rfl)
  rw [lg_entry_eq]
  generalize (lg_sl ([.ref a0, .int (nI a), .int (nI b)]) ++ List.replicate (7 - (lg_sl ([.ref a0, .int (nI a), .int (nI b)])).length) Slot.unset).toArray = ls at hl ⊢
  have hl : lv_has ls 7 [(0, .ref a0), (1, .int (nI a)), (2, .int (nI b))] := hl
  refine lv_aload_n hx hb dX2_reverse_0 rfl (lv_at hl 0 rfl) ?_
  have hPc := hP.sub (ws' := []) [] rfl
  have hDc := hD.sub (ws' := []) [] (by decide) rfl
  have hKc := hK.sub (tys' := []) [] rfl
  have hFc := va_free (wc := []) hD hS hA [] rfl
  refine va_callr (va_runS (As := [.ref a0]) (rest := []) ⟨hx, hb, hml, hown, hts⟩ (metX3_checkNotNull l dC dI s.heap.size a0) (va_cwS 1 hts (lw_S q57 q58 q8 q59) rfl rfl rfl (by decide +kernel) ⟨Nat.le_of_ble_eq_true rfl, Nat.le_of_ble_eq_true rfl⟩) ⟨fun a U g mk q => by obtain ⟨q0, q1, qP, qK, qD⟩ := q; exact ⟨q0, q1, qP, va_K.moved (u := U) (U := U.calling g mk a) (Vm.Alike.refl U.vm) qK, qD⟩, fun U hU hW => ⟨rfl, by rw [hU], by rw [hU]; exact hPc, va_K.moved hW.alike hKc, hDc.weaken (fun _ _ _ _ => trivial)⟩⟩ rfl rfl hl.1 rfl (lv_room (Nat.le_of_ble_eq_true rfl)) dX2_reverse_1 ⟨Nat.le_of_ble_eq_true rfl, Nat.le_of_ble_eq_true rfl⟩) hS (fun q _ h => hFc q h) hFc (fun u ra t H1 locs ht hvm hw hB hz1 hk1 hS => ?_)
  obtain ⟨hra, hB⟩ := hB
  obtain ⟨hP1, hK1, hD1⟩ := hB
  rw [ht] at hP1
  have hK1 := va_K.moved hvm.symm hK1
  obtain ⟨hP, hD⟩ := va_join (wr := [ld_A a0 d0 f]) (w1 := []) hP hD [] [0] rfl rfl (by decide) (by decide) hk1 hFc hP1 hD1
  have hK := (hK.sub (tys' := [(d0, .long)]) [0] rfl).app hK1
  generalize H1 = H at hP hS ⊢
  have hP : va_P (dC, dI) ld_Cl [ld_A a0 d0 f] H := hP
  have hD : va_D A [ld_A a0 d0 f] := hD
  have hK : va_K (dC, dI) ld_Cl [(d0, .long)] s := hK
  refine lv_pop hx hb dX2_reverse_4 rfl ?_
  refine lv_iload_n hx hb dX2_reverse_5 rfl (lv_at hl 1 rfl) ?_
  refine lv_iload_n hx hb dX2_reverse_6 rfl (lv_at hl 2 rfl) ?_
  refine lv_aload_n hx hb dX2_reverse_7 rfl (lv_at hl 0 rfl) ?_
  refine va_alen (v := nI 12) hx hb hK hP 0 0 rfl rfl rfl dX2_reverse_8 ?_
  have hPc := hP.sub (ws' := []) [] rfl
  have hDc := hD.sub (ws' := []) [] (by decide) rfl
  have hKc := hK.sub (tys' := []) [] rfl
  have hFc := va_free (wc := []) hD hS hA [] rfl
  refine va_callv (va_runS (As := [.int (nI a), .int (nI b), .int (nI 12)]) (rest := []) ⟨hx, hb, hml, hown, hts⟩ (metX3_checkPositionIndexes l dC dI H.size a b hab h12) (va_cwS 3 hts (lw_S q126 q127 q8 q128) rfl rfl rfl (by decide +kernel) ⟨Nat.le_of_ble_eq_true rfl, Nat.le_of_ble_eq_true rfl⟩) ⟨fun a U g mk q => by obtain ⟨q0, q1, qP, qK, qD⟩ := q; exact ⟨q0, q1, qP, va_K.moved (u := U) (U := U.calling g mk a) (Vm.Alike.refl U.vm) qK, qD⟩, fun U hU hW => ⟨rfl, by rw [hU], by rw [hU]; exact hPc, va_K.moved hW.alike hKc, hDc.weaken (fun _ _ _ _ => trivial)⟩⟩ rfl rfl hl.1 rfl (lv_room (Nat.le_of_ble_eq_true rfl)) dX2_reverse_9 ⟨Nat.le_of_ble_eq_true rfl, Nat.le_of_ble_eq_true rfl⟩) hS (fun q _ h => hFc q h) hFc (fun u t H1 locs ht hvm hw hB hz1 hk1 hS => ?_)
  obtain ⟨hP1, hK1, hD1⟩ := hB
  rw [ht] at hP1
  have hK1 := va_K.moved hvm.symm hK1
  obtain ⟨hP, hD⟩ := va_join (wr := [ld_A a0 d0 f]) (w1 := []) hP hD [] [0] rfl rfl (by decide) (by decide) hk1 hFc hP1 hD1
  have hK := (hK.sub (tys' := [(d0, .long)]) [0] rfl).app hK1
  generalize H1 = H at hP hS ⊢
  have hP : va_P (dC, dI) ld_Cl [ld_A a0 d0 f] H := hP
  have hD : va_D A [ld_A a0 d0 f] := hD
  have hK : va_K (dC, dI) ld_Cl [(d0, .long)] s := hK
  refine lv_iload_n hx hb dX2_reverse_12 rfl (lv_at hl 1 rfl) ?_
  refine lv_istore_n (lv' := [(3, .int (nI a)), (0, .ref a0), (1, .int (nI a)), (2, .int (nI b))]) hx hb dX2_reverse_13 rfl hl (by decide) rfl (fun ls hl => ?_)
  refine lv_iload_n hx hb dX2_reverse_14 rfl (lv_at hl 3 rfl) ?_
  refine lv_iconst (v := nI 1) hx hb dX2_reverse_15 (by decide +kernel) ?_
  refine lv_isub hx hb dX2_reverse_16 ?_
  refine ld_topi (y := ld_dn b) (ld_sub1 b) ?_
  refine lv_istore (lv' := [(4, .int (ld_dn b)), (3, .int (nI a)), (0, .ref a0), (1, .int (nI a)), (2, .int (nI b))]) hx hb dX2_reverse_17 hl (by decide) rfl (fun ls hl => ?_)
  have key : ∀ (n i : Nat), 12 < i + n → a + 2 * i ≤ b → ∀ (g : Nat → Int64), (∀ j, j < 12 → g j = ld_rs f a b i j) → ∀ (H : Heap) (locs : List Loc), va_P (dC, dI) ld_Cl [ld_A a0 d0 g] H → va_D A [ld_A a0 d0 g] → va_S A s.heap H locs → ∀ (ls : Array Slot), lv_has ls 7 [(0, .ref a0), (3, .int (nI (a + i))), (4, .int (ld_dn (b - i)))] → W p l e (headSpec (ws_ yX2_reverse cX2_reverse 7 none) ({ frames := 1, cells := 0, slots := 0, locals := 32 } : Room)).room s m ([.ref a0, .int (nI a), .int (nI b)] : List Value).toArray below meth c H locs (0 + 0 + 0) (0 + 0 + 0) (MQ below (va_Qv (fun (g : Nat → Int64) => ∀ j, j < 12 → g j = ld_rv f a b j) (ld_B dC dI A (fun (g : Nat → Int64) => [ld_A a0 d0 g]) [(d0, .long)]) A) ([.ref a0, .int (nI a), .int (nI b)] : List Value).toArray s 0 0 A) (F0 m 19 ls []) := by
    intro n
    induction n with
    | zero => intro i h1 h2; exact absurd h1 (by omega)
    | succ n ih =>
      intro i h1 h3 g h4 H locs hP hD hS ls hl
      refine lv_iload_n hx hb dX2_reverse_19 rfl (lv_at hl 1 rfl) ?_
      refine lv_iload hx hb dX2_reverse_20 (lv_at hl 2 rfl) ?_
      refine lv_icmp_ge (tgt := 52) hx hb dX2_reverse_22 (by decide) (fun c_28 => ?_) (fun c_28 => ?_)
      · have h5 := (ld_dn_le (by omega) (by omega)).mp c_28
        have hP9 := hP.sub (ws' := [ld_A a0 d0 g]) [0] rfl
        have hD9 := hD.sub (ws' := [ld_A a0 d0 g]) [0] (by decide) rfl
        have hK9 := hK.sub (tys' := [(d0, .long)]) [0] rfl
        exact W.vret hx hb hr (fun t ht hW => ⟨⟨g, rfl, fun j hj => (h4 j hj).trans (ld_rs_end h3 (by omega)), by rw [ht]; exact hP9, va_K.moved hW.alike hK9, hD9⟩, hS.F ht⟩) hS.2.2 dX2_reverse_52
      · have h5 : a + 2 * i + 1 < b := by
          rcases Nat.lt_or_ge (a + 2 * i + 1) b with z | z
          · exact z
          · exact absurd ((ld_dn_le (by omega) (by omega)).mpr (by omega)) c_28
        have e4 : ld_dn (b - i) = nI (b - 1 - i) := by rw [show b - i = (b - 1 - i) + 1 by omega]; exact ld_dns _
        rw [e4] at hl
        refine lv_aload_n hx hb dX2_reverse_25 rfl (lv_at hl 0 rfl) ?_
        refine lv_iload_n hx hb dX2_reverse_26 rfl (lv_at hl 1 rfl) ?_
        refine ld_lald (n := 12) (f := g) (i := (a + i)) hx hb hK hP 0 0 rfl rfl (by omega) (by decide) dX2_reverse_27 ?_
        refine lv_lstore (lv' := [(5, .long (g ((a + i)))), (0, .ref a0), (3, .int (nI (a + i))), (4, .int (nI (b - 1 - i)))]) hx hb dX2_reverse_28 hl (by decide) rfl (fun ls hl => ?_)
        refine lv_aload_n hx hb dX2_reverse_30 rfl (lv_at hl 1 rfl) ?_
        refine lv_iload_n hx hb dX2_reverse_31 rfl (lv_at hl 2 rfl) ?_
        refine lv_aload_n hx hb dX2_reverse_32 rfl (lv_at hl 1 rfl) ?_
        refine lv_iload hx hb dX2_reverse_33 (lv_at hl 3 rfl) ?_
        refine ld_lald (n := 12) (f := g) (i := (b - 1 - i)) hx hb hK hP 0 0 rfl rfl (by omega) (by decide) dX2_reverse_35 ?_
        refine ld_last_ (n := 12) (f := g) (i := (a + i)) hx hb hK hP hD hS 0 0 rfl rfl (by omega) (by decide) dX2_reverse_36 (fun H locs hP hD hS => ?_)
        have hP : va_P (dC, dI) ld_Cl [ld_A a0 d0 (vp_updL g (a + i) (g (b - 1 - i)))] H := hP
        have hD : va_D A [ld_A a0 d0 (vp_updL g (a + i) (g (b - 1 - i)))] := hD
        refine lv_aload_n hx hb dX2_reverse_37 rfl (lv_at hl 1 rfl) ?_
        refine lv_iload hx hb dX2_reverse_38 (lv_at hl 3 rfl) ?_
        refine lv_lload hx hb dX2_reverse_40 (lv_at hl 0 rfl) ?_
        refine ld_last_ (n := 12) (f := (vp_updL g (a + i) (g (b - 1 - i)))) (i := (b - 1 - i)) hx hb hK hP hD hS 0 0 rfl rfl (by omega) (by decide) dX2_reverse_42 (fun H locs hP hD hS => ?_)
        have hP : va_P (dC, dI) ld_Cl [ld_A a0 d0 (vp_updL (vp_updL g (a + i) (g (b - 1 - i))) (b - 1 - i) (g (a + i)))] H := hP
        have hD : va_D A [ld_A a0 d0 (vp_updL (vp_updL g (a + i) (g (b - 1 - i))) (b - 1 - i) (g (a + i)))] := hD
        refine lv_iinc (v := nI (a + (i + 1))) (lv' := [(3, .int (nI (a + (i + 1)))), (5, .long (g ((a + i)))), (0, .ref a0), (4, .int (nI (b - 1 - i)))]) hx hb dX2_reverse_43 hl (k := 2) rfl (ld_inc (a + i)) (by decide) rfl (fun ls hl => ?_)
        refine lv_iinc (v := ld_dn (b - (i + 1))) (lv' := [(4, .int (ld_dn (b - (i + 1)))), (3, .int (nI (a + (i + 1)))), (5, .long (g ((a + i)))), (0, .ref a0)]) hx hb dX2_reverse_46 hl (k := 3) rfl ((ld_dec (b - 1 - i)).trans (congrArg ld_dn (by omega))) (by decide) rfl (fun ls hl => ?_)
        refine lv_goto (tgt := 19) hx hb dX2_reverse_49 (by decide) ?_
        exact ih (i + 1) (by omega) (by omega) _ (ld_rs_step h5 h12 h4) _ _ hP hD hS ls (lv_sub hl [3, 1, 0] rfl)
  exact key 13 0 (by decide) (by omega) f (fun j _ => (ld_rs_0 f a b j).symm) _ _ hP hD hS ls (lv_sub hl [2, 1, 0] rfl)
end
section
/-! LongRowDesk -/
set_option maxRecDepth 100000
set_option maxHeartbeats 4000000 in
set_option maxRecDepth 100000 in
/-- LongRowDesk(): a row of twelve noughts -/
theorem metX0_init (l : Launch) (dC : Nat → ClassId) (dI : Nat → Nat → Nat) (sz : Nat) (h0 : Nat) : Met l yX0_init (ws_ yX0_init cX0_init 1 none) ({ frames := 1, cells := 1, slots := 12, locals := 12 } : Room) (va_Pc [.ref h0] (fun U => ld_I dC dI sz [(h0, .inr (0, [.null]))] [] U)) (va_Qv (fun (_ : Unit) => True) (fun (u : Unit) (t : State) => ∃ (a0 : Nat) (d0 : ClassId), ld_B dC dI (va_A [(h0, .inr (0, [.null]))] sz) (fun (_ : Unit) => [ld_O h0 0 a0, ld_A a0 d0 (fun _ => 0)]) [(d0, .long)] u t) (va_A [(h0, .inr (0, [.null]))] sz)) 1 12 (va_A [(h0, .inr (0, [.null]))] sz) := by
  refine Met.ofW (cc := cX0_init) (maxL := 1) (ret := none) (by decide) rfl ?_
  intro p e s m args below meth c s₁ B hml hv
  obtain ⟨rfl, hsz, hP, hK, hD0⟩ := hv
  have hx := B.exec
  have hb := B.bytes
  have hr := B.returns
  have hts := atoms_spec (ws := (ws_ yX0_init cX0_init 1 none)) B.pre
  have hts : ∀ w ∈ lw_all, w.before _ s = true := fun w h => hts w (List.mem_cons_of_mem _ h)
  have hown : s.vm.findClass RX0 = some m.cls := findClass_of_methodNamed B.named
  have hlocks := B.notSynchronized
  have hin : meth.name = "<init>" := (name_of_methodNamed B.named B.method).1
  subst hsz
  have hD := hD0.self (sz := s.heap.size)
  generalize hAe : va_A [(h0, .inr (0, [.null]))] s.heap.size = A at hD ⊢
  have hA : ∀ q : Nat, s.heap.size ≤ q → A q := fun q h => by rw [← hAe]; exact Or.inr h
  have hS : va_S A s.heap s.heap [] := va_S.rf
  have hP : va_P (dC, dI) ld_Cl [(h0, .inr (0, [.null]))] s.heap := hP
  have hl := lv_entry ([.ref h0]) (n := 1) (Nat.le_of_ble_eq_true rfl)
  rw [lg_entry_eq]
  generalize (lg_sl ([.ref h0]) ++ List.replicate (1 - (lg_sl ([.ref h0])).length) Slot.unset).toArray = ls at hl ⊢
  have hl : lv_has ls 1 [(0, .ref h0)] := hl
  refine lv_aload_n hx hb dX0_init_0 rfl (lv_at hl 0 rfl) ?_
  refine W.objInit hx hb hown (hts _ q21) (hts _ q22) (hts _ q23) rfl (by rw [hml]; exact hl.1) rfl dX0_init_1 (Nat.le_of_ble_eq_true rfl) (Nat.le_of_ble_eq_true rfl) ?_
  refine W.eq (g2 := F0 m 4 ls []) rfl ?_
  refine lv_aload_n hx hb dX0_init_4 rfl (lv_at hl 0 rfl) ?_
  refine lv_bipush (v := nI 12) hx hb dX0_init_5 (by decide +kernel) ?_
  refine va_newa (atype := .long) (ty := .long) (N' := 12) (a0 := (12, .inr (.inl (fun _ => 0)))) hx hb (hts _ q28) rfl hK hP hD hS hA (fun _ => rfl) (by decide +kernel) (by decide +kernel) (Nat.le_of_ble_eq_true rfl) (Nat.le_of_ble_eq_true rfl) (Nat.le_of_ble_eq_true rfl) dX0_init_7 (fun a0 d0 H hK hP hD hS => ?_)
  have hP : va_P (dC, dI) ld_Cl [(h0, .inr (0, [.null])), ld_A a0 d0 (fun _ => 0)] H := hP
  have hD : va_D A [(h0, .inr (0, [.null])), ld_A a0 d0 (fun _ => 0)] := hD
  have hK : va_K (dC, dI) ld_Cl [(d0, .long)] s := hK
  refine va_putF (D := (dC, dI)) (ci := 0) (v := .ref a0) (ty := .array .long) (C := RX0) (T := TX0) (N := 1) hx hb hts in_X0 tyX0 tyX0_ok nmX0 hown hK hP hD hS 0 rfl rfl 0 (by decide) (hts _ q24) (fun _ h9 => h9) rfl hin rfl (by decide +kernel) rfl rfl (Nat.le_of_ble_eq_true rfl) dX0_init_9 (fun H locs hP hD hS => ?_)
  have hP : va_P (dC, dI) ld_Cl [ld_O h0 0 a0, ld_A a0 d0 (fun _ => 0)] H := hP
  have hD : va_D A [ld_O h0 0 a0, ld_A a0 d0 (fun _ => 0)] := hD
  have hP9 := hP.sub (ws' := [ld_O h0 0 a0, ld_A a0 d0 (fun _ => 0)]) [0, 1] rfl
  have hD9 := hD.sub (ws' := [ld_O h0 0 a0, ld_A a0 d0 (fun _ => 0)]) [0, 1] (by decide) rfl
  have hK9 := hK.sub (tys' := [(d0, .long)]) [0] rfl
  exact W.vret hx hb hr (fun t ht hW => ⟨⟨(), rfl, trivial, ⟨a0, d0, by rw [ht]; exact hP9, va_K.moved hW.alike hK9, hD9⟩⟩, hS.F ht⟩) hS.2.2 dX0_init_12
set_option maxHeartbeats 4000000 in
set_option maxRecDepth 100000 in
/-- LongRowDesk.wide -/
theorem metX0_wide (l : Launch) (dC : Nat → ClassId) (dI : Nat → Nat → Nat) (sz : Nat) (x y : Int32) : Met l yX0_wide (ws_ yX0_wide cX0_wide 2 (some .long)) ({ frames := 0, cells := 0, slots := 0, locals := 0 } : Room) (va_Pc [.int x, .int y] (fun U => ld_I dC dI sz [] [] U)) (va_Ql (fun (r : Int64) (_ : Unit) => r = ld_wd x y) (ld_B dC dI (va_A [] sz) (fun (_ : Unit) => []) []) (va_A [] sz)) 0 0 (va_A [] sz) := by
  refine Met.ofW (cc := cX0_wide) (maxL := 2) (ret := (some .long)) (by decide) rfl ?_
  intro p e s m args below meth c s₁ B hml hv
  obtain ⟨rfl, hsz, hP, hK, hD0⟩ := hv
  have hx := B.exec
  have hb := B.bytes
  have hr := B.returns
  have hts := atoms_spec (ws := (ws_ yX0_wide cX0_wide 2 (some .long))) B.pre
  have hts : ∀ w ∈ lw_all, w.before _ s = true := fun w h => hts w (List.mem_cons_of_mem _ h)
  have hown : s.vm.findClass RX0 = some m.cls := findClass_of_methodNamed B.named
  have hlocks := B.notSynchronized
  subst hsz
  have hD := hD0.self (sz := s.heap.size)
  generalize hAe : va_A [] s.heap.size = A at hD ⊢
  have hA : ∀ q : Nat, s.heap.size ≤ q → A q := fun q h => by rw [← hAe]; exact Or.inr h
  have hS : va_S A s.heap s.heap [] := va_S.rf
  have hP : va_P (dC, dI) ld_Cl [] s.heap := hP
  have hl := lv_entry ([.int x, .int y]) (n := 2) (Nat.le_of_ble_eq_true rfl)
  rw [lg_entry_eq]
  generalize (lg_sl ([.int x, .int y]) ++ List.replicate (2 - (lg_sl ([.int x, .int y])).length) Slot.unset).toArray = ls at hl ⊢
  have hl : lv_has ls 2 [(0, .int x), (1, .int y)] := hl
  refine lv_iload_n hx hb dX0_wide_0 rfl (lv_at hl 0 rfl) ?_
  refine lv_i2l hx hb dX0_wide_1 rfl ?_
  refine lv_bipush (v := nI 32) hx hb dX0_wide_2 (by decide +kernel) ?_
  refine lv_lshl hx hb dX0_wide_4 rfl ?_
  refine lv_iload_n hx hb dX0_wide_5 rfl (lv_at hl 1 rfl) ?_
  refine lv_i2l hx hb dX0_wide_6 rfl ?_
  refine lv_ldc2 hx hb hown (hts _ q37) dX0_wide_7 ?_
  refine lv_land hx hb dX0_wide_10 ?_
  refine lv_lor hx hb dX0_wide_11 ?_
  refine ld_topl (y := ld_wd x y) (ld_wd_eq x y) ?_
  have hP9 := hP.sub (ws' := []) [] rfl
  have hD9 := hD.sub (ws' := []) [] (by decide) rfl
  have hK9 := hK.sub (tys' := []) [] rfl
  exact W.lret (v := (ld_wd x y)) hx hb hr (fun t ht hW => ⟨⟨(ld_wd x y), (), rfl, rfl, by rw [ht]; exact hP9, va_K.moved hW.alike hK9, hD9⟩, hS.F ht⟩) hS.2.2 dX0_wide_12
set_option maxHeartbeats 4000000 in
set_option maxRecDepth 100000 in
/-- LongRowDesk.set -/
theorem metX0_set (l : Launch) (dC : Nat → ClassId) (dI : Nat → Nat → Nat) (sz : Nat) (h0 a0 : Nat) (d0 : ClassId) (f : Nat → Int64) (i x y : Int32) : Met l yX0_set (ws_ yX0_set cX0_set 4 none) ({ frames := 1, cells := 0, slots := 0, locals := 32 } : Room) (va_Pc [.ref h0, .int i, .int x, .int y] (fun U => ld_I dC dI sz [ld_O h0 0 a0, ld_A a0 d0 f] [(d0, .long)] U)) (va_Qv (fun (g : Nat → Int64) => g = vp_updL f (ld_pl i) (ld_wd x y)) (ld_B dC dI (va_A [ld_O h0 0 a0, ld_A a0 d0 f] sz) (fun (g : Nat → Int64) => [ld_O h0 0 a0, ld_A a0 d0 g]) [(d0, .long)]) (va_A [ld_O h0 0 a0, ld_A a0 d0 f] sz)) 0 0 (va_A [ld_O h0 0 a0, ld_A a0 d0 f] sz) := by
  refine Met.ofW (cc := cX0_set) (maxL := 4) (ret := none) (by decide) rfl ?_
  intro p e s m args below meth c s₁ B hml hv
  obtain ⟨rfl, hsz, hP, hK, hD0⟩ := hv
  have hx := B.exec
  have hb := B.bytes
  have hr := B.returns
  have hts := atoms_spec (ws := (ws_ yX0_set cX0_set 4 none)) B.pre
  have hts : ∀ w ∈ lw_all, w.before _ s = true := fun w h => hts w (List.mem_cons_of_mem _ h)
  have hown : s.vm.findClass RX0 = some m.cls := findClass_of_methodNamed B.named
  have hlocks := B.notSynchronized
  subst hsz
  have hD := hD0.self (sz := s.heap.size)
  generalize hAe : va_A [ld_O h0 0 a0, ld_A a0 d0 f] s.heap.size = A at hD ⊢
  have hA : ∀ q : Nat, s.heap.size ≤ q → A q := fun q h => by rw [← hAe]; exact Or.inr h
  have hS : va_S A s.heap s.heap [] := va_S.rf
  have hP : va_P (dC, dI) ld_Cl [ld_O h0 0 a0, ld_A a0 d0 f] s.heap := hP
  have hl := lv_entry ([.ref h0, .int i, .int x, .int y]) (n := 4) (Nat.le_of_ble_eq_true rfl)
  rw [lg_entry_eq]
  generalize (lg_sl ([.ref h0, .int i, .int x, .int y]) ++ List.replicate (4 - (lg_sl ([.ref h0, .int i, .int x, .int y])).length) Slot.unset).toArray = ls at hl ⊢
  have hl : lv_has ls 4 [(0, .ref h0), (1, .int i), (2, .int x), (3, .int y)] := hl
  refine lv_aload_n hx hb dX0_set_0 rfl (lv_at hl 0 rfl) ?_
  refine va_get (D := (dC, dI)) (ci := 0) (v := .ref a0) (C := RX0) (T := TX0) (N := 1) hx hb hts in_X0 hown hK hP 0 rfl rfl 0 (by decide) (hts _ q24) (fun _ h9 => h9) rfl dX0_set_1 ?_
  refine lv_iload_n hx hb dX0_set_4 rfl (lv_at hl 1 rfl) ?_
  refine lv_ldc hx hb hown (hts _ q33) dX0_set_5 ?_
  refine lv_iand hx hb dX0_set_7 ?_
  refine lv_bipush (v := nI 12) hx hb dX0_set_8 (by decide +kernel) ?_
  refine lv_irem hx hb dX0_set_10 (ld_12ne) ?_
  refine ld_topi (y := nI (ld_pl i)) (ld_pl_eq i) ?_
  refine lv_iload_n hx hb dX0_set_11 rfl (lv_at hl 2 rfl) ?_
  refine lv_iload_n hx hb dX0_set_12 rfl (lv_at hl 3 rfl) ?_
  have hPc := hP.sub (ws' := []) [] rfl
  have hDc := hD.sub (ws' := []) [] (by decide) rfl
  have hKc := hK.sub (tys' := []) [] rfl
  have hFc := va_free (wc := []) hD hS hA [] rfl
  refine va_calll (va_runS (As := [.int x, .int y]) (rest := [.int (nI (ld_pl i)), .ref a0]) ⟨hx, hb, hml, hown, hts⟩ (metX0_wide l dC dI s.heap.size x y) (va_cwS 2 hts (lw_S q34 q35 q5 q36) rfl rfl rfl (by decide +kernel) ⟨Nat.le_of_ble_eq_true rfl, Nat.le_of_ble_eq_true rfl⟩) ⟨fun a U g mk q => by obtain ⟨q0, q1, qP, qK, qD⟩ := q; exact ⟨q0, q1, qP, va_K.moved (u := U) (U := U.calling g mk a) (Vm.Alike.refl U.vm) qK, qD⟩, fun U hU hW => ⟨rfl, by rw [hU], by rw [hU]; exact hPc, va_K.moved hW.alike hKc, hDc.weaken (fun _ _ _ _ => trivial)⟩⟩ rfl rfl hl.1 rfl (lv_room (Nat.le_of_ble_eq_true rfl)) dX0_set_13 ⟨Nat.le_of_ble_eq_true rfl, Nat.le_of_ble_eq_true rfl⟩) hS (fun q _ h => hFc q h) hFc (fun r_29 u t H1 locs ht hvm hw hB hz1 hk1 hS => ?_)
  obtain ⟨hP1, hK1, hD1⟩ := hB
  rw [ht] at hP1
  have hK1 := va_K.moved hvm.symm hK1
  obtain ⟨hP, hD⟩ := va_join (wr := [ld_O h0 0 a0, ld_A a0 d0 f]) (w1 := []) hP hD [] [0, 1] rfl rfl (by decide) (by decide) hk1 hFc hP1 hD1
  have hK := (hK.sub (tys' := [(d0, .long)]) [0] rfl).app hK1
  generalize H1 = H at hP hS ⊢
  have hP : va_P (dC, dI) ld_Cl [ld_O h0 0 a0, ld_A a0 d0 f] H := hP
  have hD : va_D A [ld_O h0 0 a0, ld_A a0 d0 f] := hD
  have hK : va_K (dC, dI) ld_Cl [(d0, .long)] s := hK
  have hw : r_29 = ld_wd x y := hw
  subst hw
  refine ld_last_ (n := 12) (f := f) (i := (ld_pl i)) hx hb hK hP hD hS 1 0 rfl rfl (ld_pl_lt i) (by decide) dX0_set_16 (fun H locs hP hD hS => ?_)
  have hP : va_P (dC, dI) ld_Cl [ld_O h0 0 a0, ld_A a0 d0 (vp_updL f (ld_pl i) (ld_wd x y))] H := hP
  have hD : va_D A [ld_O h0 0 a0, ld_A a0 d0 (vp_updL f (ld_pl i) (ld_wd x y))] := hD
  have hP9 := hP.sub (ws' := [ld_O h0 0 a0, ld_A a0 d0 (vp_updL f (ld_pl i) (ld_wd x y))]) [0, 1] rfl
  have hD9 := hD.sub (ws' := [ld_O h0 0 a0, ld_A a0 d0 (vp_updL f (ld_pl i) (ld_wd x y))]) [0, 1] (by decide) rfl
  have hK9 := hK.sub (tys' := [(d0, .long)]) [0] rfl
  exact W.vret hx hb hr (fun t ht hW => ⟨⟨vp_updL f (ld_pl i) (ld_wd x y), rfl, rfl, by rw [ht]; exact hP9, va_K.moved hW.alike hK9, hD9⟩, hS.F ht⟩) hS.2.2 dX0_set_17
set_option maxHeartbeats 4000000 in
set_option maxRecDepth 100000 in
/-- LongRowDesk.get -/
theorem metX0_get (l : Launch) (dC : Nat → ClassId) (dI : Nat → Nat → Nat) (sz : Nat) (h0 a0 : Nat) (d0 : ClassId) (f : Nat → Int64) (i : Int32) : Met l yX0_get (ws_ yX0_get cX0_get 2 (some .long)) ({ frames := 0, cells := 0, slots := 0, locals := 0 } : Room) (va_Pc [.ref h0, .int i] (fun U => ld_I dC dI sz [ld_O h0 0 a0, ld_A a0 d0 f] [(d0, .long)] U)) (va_Ql (fun (r : Int64) (_ : Unit) => r = f (ld_pl i)) (ld_B dC dI (va_A [ld_O h0 0 a0, ld_A a0 d0 f] sz) (fun (_ : Unit) => [ld_O h0 0 a0, ld_A a0 d0 f]) [(d0, .long)]) (va_A [ld_O h0 0 a0, ld_A a0 d0 f] sz)) 0 0 (va_A [ld_O h0 0 a0, ld_A a0 d0 f] sz) := by
  refine Met.ofW (cc := cX0_get) (maxL := 2) (ret := (some .long)) (by decide) rfl ?_
  intro p e s m args below meth c s₁ B hml hv
  obtain ⟨rfl, hsz, hP, hK, hD0⟩ := hv
  have hx := B.exec
  have hb := B.bytes
  have hr := B.returns
  have hts := atoms_spec (ws := (ws_ yX0_get cX0_get 2 (some .long))) B.pre
  have hts : ∀ w ∈ lw_all, w.before _ s = true := fun w h => hts w (List.mem_cons_of_mem _ h)
  have hown : s.vm.findClass RX0 = some m.cls := findClass_of_methodNamed B.named
  have hlocks := B.notSynchronized
  subst hsz
  have hD := hD0.self (sz := s.heap.size)
  generalize hAe : va_A [ld_O h0 0 a0, ld_A a0 d0 f] s.heap.size = A at hD ⊢
  have hA : ∀ q : Nat, s.heap.size ≤ q → A q := fun q h => by rw [← hAe]; exact Or.inr h
  have hS : va_S A s.heap s.heap [] := va_S.rf
  have hP : va_P (dC, dI) ld_Cl [ld_O h0 0 a0, ld_A a0 d0 f] s.heap := hP
  have hl := lv_entry ([.ref h0, .int i]) (n := 2) (Nat.le_of_ble_eq_true rfl)
  rw [lg_entry_eq]
  generalize (lg_sl ([.ref h0, .int i]) ++ List.replicate (2 - (lg_sl ([.ref h0, .int i])).length) Slot.unset).toArray = ls at hl ⊢
  have hl : lv_has ls 2 [(0, .ref h0), (1, .int i)] := hl
  refine lv_aload_n hx hb dX0_get_0 rfl (lv_at hl 0 rfl) ?_
  refine va_get (D := (dC, dI)) (ci := 0) (v := .ref a0) (C := RX0) (T := TX0) (N := 1) hx hb hts in_X0 hown hK hP 0 rfl rfl 0 (by decide) (hts _ q24) (fun _ h9 => h9) rfl dX0_get_1 ?_
  refine lv_iload_n hx hb dX0_get_4 rfl (lv_at hl 1 rfl) ?_
  refine lv_ldc hx hb hown (hts _ q33) dX0_get_5 ?_
  refine lv_iand hx hb dX0_get_7 ?_
  refine lv_bipush (v := nI 12) hx hb dX0_get_8 (by decide +kernel) ?_
  refine lv_irem hx hb dX0_get_10 (ld_12ne) ?_
  refine ld_topi (y := nI (ld_pl i)) (ld_pl_eq i) ?_
  refine ld_lald (n := 12) (f := f) (i := (ld_pl i)) hx hb hK hP 1 0 rfl rfl (ld_pl_lt i) (by decide) dX0_get_11 ?_
  have hP9 := hP.sub (ws' := [ld_O h0 0 a0, ld_A a0 d0 f]) [0, 1] rfl
  have hD9 := hD.sub (ws' := [ld_O h0 0 a0, ld_A a0 d0 f]) [0, 1] (by decide) rfl
  have hK9 := hK.sub (tys' := [(d0, .long)]) [0] rfl
  exact W.lret (v := (f ((ld_pl i)))) hx hb hr (fun t ht hW => ⟨⟨(f ((ld_pl i))), (), rfl, rfl, by rw [ht]; exact hP9, va_K.moved hW.alike hK9, hD9⟩, hS.F ht⟩) hS.2.2 dX0_get_12
set_option maxHeartbeats 4000000 in
set_option maxRecDepth 100000 in
/-- LongRowDesk.from -/
theorem metX0_from (l : Launch) (dC : Nat → ClassId) (dI : Nat → Nat → Nat) (sz : Nat) (h0 : Nat) (x : Int32) : Met l yX0_from (ws_ yX0_from cX0_from 2 (some .int)) ({ frames := 0, cells := 0, slots := 0, locals := 0 } : Room) (va_Pc [.ref h0, .int x] (fun U => ld_I dC dI sz [] [] U)) (va_Qi (fun (r : Int32) (_ : Unit) => r = nI (ld_fr x)) (ld_B dC dI (va_A [] sz) (fun (_ : Unit) => []) []) (va_A [] sz)) 0 0 (va_A [] sz) := by
  refine Met.ofW (cc := cX0_from) (maxL := 2) (ret := (some .int)) (by decide) rfl ?_
  intro p e s m args below meth c s₁ B hml hv
  obtain ⟨rfl, hsz, hP, hK, hD0⟩ := hv
  have hx := B.exec
  have hb := B.bytes
  have hr := B.returns
  have hts := atoms_spec (ws := (ws_ yX0_from cX0_from 2 (some .int))) B.pre
  have hts : ∀ w ∈ lw_all, w.before _ s = true := fun w h => hts w (List.mem_cons_of_mem _ h)
  have hown : s.vm.findClass RX0 = some m.cls := findClass_of_methodNamed B.named
  have hlocks := B.notSynchronized
  subst hsz
  have hD := hD0.self (sz := s.heap.size)
  generalize hAe : va_A [] s.heap.size = A at hD ⊢
  have hA : ∀ q : Nat, s.heap.size ≤ q → A q := fun q h => by rw [← hAe]; exact Or.inr h
  have hS : va_S A s.heap s.heap [] := va_S.rf
  have hP : va_P (dC, dI) ld_Cl [] s.heap := hP
  have hl := lv_entry ([.ref h0, .int x]) (n := 2) (Nat.le_of_ble_eq_true rfl)
  rw [lg_entry_eq]
  generalize (lg_sl ([.ref h0, .int x]) ++ List.replicate (2 - (lg_sl ([.ref h0, .int x])).length) Slot.unset).toArray = ls at hl ⊢
  have hl : lv_has ls 2 [(0, .ref h0), (1, .int x)] := hl
  refine lv_iload_n hx hb dX0_from_0 rfl (lv_at hl 1 rfl) ?_
  refine lv_ldc hx hb hown (hts _ q33) dX0_from_1 ?_
  refine lv_iand hx hb dX0_from_3 ?_
  refine lv_bipush (v := nI 13) hx hb dX0_from_4 (by decide +kernel) ?_
  refine lv_irem hx hb dX0_from_6 (ld_13ne0) ?_
  refine ld_topi (y := nI (ld_fr x)) (ld_fr_eq x) ?_
  have hP9 := hP.sub (ws' := []) [] rfl
  have hD9 := hD.sub (ws' := []) [] (by decide) rfl
  have hK9 := hK.sub (tys' := []) [] rfl
  exact W.iret (v := (nI (ld_fr x))) hx hb hr (fun t ht hW => ⟨⟨(nI (ld_fr x)), (), rfl, rfl, by rw [ht]; exact hP9, va_K.moved hW.alike hK9, hD9⟩, hS.F ht⟩) hS.2.2 dX0_from_7
set_option maxHeartbeats 4000000 in
set_option maxRecDepth 100000 in
/-- LongRowDesk.to -/
theorem metX0_to (l : Launch) (dC : Nat → ClassId) (dI : Nat → Nat → Nat) (sz : Nat) (h0 : Nat) (a : Nat) (y : Int32) (h12 : a ≤ 12) : Met l yX0_to (ws_ yX0_to cX0_to 3 (some .int)) ({ frames := 0, cells := 0, slots := 0, locals := 0 } : Room) (va_Pc [.ref h0, .int (nI a), .int y] (fun U => ld_I dC dI sz [] [] U)) (va_Qi (fun (r : Int32) (_ : Unit) => r = nI (ld_tk a y)) (ld_B dC dI (va_A [] sz) (fun (_ : Unit) => []) []) (va_A [] sz)) 0 0 (va_A [] sz) := by
  refine Met.ofW (cc := cX0_to) (maxL := 3) (ret := (some .int)) (by decide) rfl ?_
  intro p e s m args below meth c s₁ B hml hv
  obtain ⟨rfl, hsz, hP, hK, hD0⟩ := hv
  have hx := B.exec
  have hb := B.bytes
  have hr := B.returns
  have hts := atoms_spec (ws := (ws_ yX0_to cX0_to 3 (some .int))) B.pre
  have hts : ∀ w ∈ lw_all, w.before _ s = true := fun w h => hts w (List.mem_cons_of_mem _ h)
  have hown : s.vm.findClass RX0 = some m.cls := findClass_of_methodNamed B.named
  have hlocks := B.notSynchronized
  subst hsz
  have hD := hD0.self (sz := s.heap.size)
  generalize hAe : va_A [] s.heap.size = A at hD ⊢
  have hA : ∀ q : Nat, s.heap.size ≤ q → A q := fun q h => by rw [← hAe]; exact Or.inr h
  have hS : va_S A s.heap s.heap [] := va_S.rf
  have hP : va_P (dC, dI) ld_Cl [] s.heap := hP
  have hl := lv_entry ([.ref h0, .int (nI a), .int y]) (n := 3) (Nat.le_of_ble_eq_true rfl)
  rw [lg_entry_eq]
  generalize (lg_sl ([.ref h0, .int (nI a), .int y]) ++ List.replicate (3 - (lg_sl ([.ref h0, .int (nI a), .int y])).length) Slot.unset).toArray = ls at hl ⊢
  have hl : lv_has ls 3 [(0, .ref h0), (1, .int (nI a)), (2, .int y)] := hl
  refine lv_iload_n hx hb dX0_to_0 rfl (lv_at hl 1 rfl) ?_
  refine lv_iload_n hx hb dX0_to_1 rfl (lv_at hl 2 rfl) ?_
  refine lv_ldc hx hb hown (hts _ q33) dX0_to_2 ?_
  refine lv_iand hx hb dX0_to_4 ?_
  refine lv_bipush (v := nI 13) hx hb dX0_to_5 (by decide +kernel) ?_
  refine lv_iload_n hx hb dX0_to_7 rfl (lv_at hl 1 rfl) ?_
  refine lv_isub hx hb dX0_to_8 ?_
  refine ld_topi (y := nI (13 - a)) (ld_13 h12) ?_
  refine lv_irem hx hb dX0_to_9 (ld_13ne h12) ?_
  refine lv_iadd hx hb dX0_to_10 ?_
  refine ld_topi (y := nI (ld_tk a y)) (ld_tk_eq h12 y) ?_
  have hP9 := hP.sub (ws' := []) [] rfl
  have hD9 := hD.sub (ws' := []) [] (by decide) rfl
  have hK9 := hK.sub (tys' := []) [] rfl
  exact W.iret (v := (nI (ld_tk a y))) hx hb hr (fun t ht hW => ⟨⟨(nI (ld_tk a y)), (), rfl, rfl, by rw [ht]; exact hP9, va_K.moved hW.alike hK9, hD9⟩, hS.F ht⟩) hS.2.2 dX0_to_11
set_option maxHeartbeats 4000000 in
set_option maxRecDepth 100000 in
/-- LongRowDesk.reverse -/
theorem metX0_reverse (l : Launch) (dC : Nat → ClassId) (dI : Nat → Nat → Nat) (sz : Nat) (h0 a0 : Nat) (d0 : ClassId) (f : Nat → Int64) (x y : Int32) : Met l yX0_reverse (ws_ yX0_reverse cX0_reverse 4 none) ({ frames := 2, cells := 0, slots := 0, locals := 64 } : Room) (va_Pc [.ref h0, .int x, .int y] (fun U => ld_I dC dI sz [ld_O h0 0 a0, ld_A a0 d0 f] [(d0, .long)] U)) (va_Qv (fun (g : Nat → Int64) => ∀ j, j < 12 → g j = ld_rv f (ld_fr x) (ld_tk (ld_fr x) y) j) (ld_B dC dI (va_A [ld_O h0 0 a0, ld_A a0 d0 f] sz) (fun (g : Nat → Int64) => [ld_O h0 0 a0, ld_A a0 d0 g]) [(d0, .long)]) (va_A [ld_O h0 0 a0, ld_A a0 d0 f] sz)) 0 0 (va_A [ld_O h0 0 a0, ld_A a0 d0 f] sz) := by
  refine Met.ofW (cc := cX0_reverse) (maxL := 4) (ret := none) (by decide) rfl ?_
  intro p e s m args below meth c s₁ B hml hv
  obtain ⟨rfl, hsz, hP, hK, hD0⟩ := hv
  have hx := B.exec
  have hb := B.bytes
  have hr := B.returns
  have hts := atoms_spec (ws := (ws_ yX0_reverse cX0_reverse 4 none)) B.pre
  have hts : ∀ w ∈ lw_all, w.before _ s = true := fun w h => hts w (List.mem_cons_of_mem _ h)
  have hown : s.vm.findClass RX0 = some m.cls := findClass_of_methodNamed B.named
  have hlocks := B.notSynchronized
  subst hsz
  have hD := hD0.self (sz := s.heap.size)
  generalize hAe : va_A [ld_O h0 0 a0, ld_A a0 d0 f] s.heap.size = A at hD ⊢
  have hA : ∀ q : Nat, s.heap.size ≤ q → A q := fun q h => by rw [← hAe]; exact Or.inr h
  have hS : va_S A s.heap s.heap [] := va_S.rf
  have hP : va_P (dC, dI) ld_Cl [ld_O h0 0 a0, ld_A a0 d0 f] s.heap := hP
  have hl := lv_entry ([.ref h0, .int x, .int y]) (n := 4) (Nat.le_of_ble_eq_true rfl)
  rw [lg_entry_eq]
  generalize (lg_sl ([.ref h0, .int x, .int y]) ++ List.replicate (4 - (lg_sl ([.ref h0, .int x, .int y])).length) Slot.unset).toArray = ls at hl ⊢
  have hl : lv_has ls 4 [(0, .ref h0), (1, .int x), (2, .int y)] := hl
  refine lv_aload_n hx hb dX0_reverse_0 rfl (lv_at hl 0 rfl) ?_
  refine lv_iload_n hx hb dX0_reverse_1 rfl (lv_at hl 1 rfl) ?_
  have hPc := hP.sub (ws' := []) [] rfl
  have hDc := hD.sub (ws' := []) [] (by decide) rfl
  have hKc := hK.sub (tys' := []) [] rfl
  have hFc := va_free (wc := []) hD hS hA [] rfl
  refine va_calli (va_runV (As := [.int x]) (rest := []) ⟨hx, hb, hml, hown, hts⟩ (metX0_from l dC dI s.heap.size h0 x) (cwV 1 hts (lw_V q46 q48 qs0 q5 q49) rfl rfl rfl (by decide +kernel) ⟨Nat.le_of_ble_eq_true rfl, Nat.le_of_ble_eq_true rfl⟩) ⟨fun a U g mk q => by obtain ⟨q0, q1, qP, qK, qD⟩ := q; exact ⟨q0, q1, qP, va_K.moved (u := U) (U := U.calling g mk a) (Vm.Alike.refl U.vm) qK, qD⟩, va_recv hK hP (ci := 0) (q0 := 0) rfl rfl, fun U hU hW => ⟨rfl, by rw [hU], by rw [hU]; exact hPc, va_K.moved hW.alike hKc, hDc.weaken (fun _ _ _ _ => trivial)⟩⟩ rfl rfl hl.1 rfl (lv_room (Nat.le_of_ble_eq_true rfl)) dX0_reverse_2 ⟨Nat.le_of_ble_eq_true rfl, Nat.le_of_ble_eq_true rfl⟩) hS (fun q _ h => hFc q h) hFc (fun r_30 u t H1 locs ht hvm hw hB hz1 hk1 hS => ?_)
  obtain ⟨hP1, hK1, hD1⟩ := hB
  rw [ht] at hP1
  have hK1 := va_K.moved hvm.symm hK1
  obtain ⟨hP, hD⟩ := va_join (wr := [ld_O h0 0 a0, ld_A a0 d0 f]) (w1 := []) hP hD [] [0, 1] rfl rfl (by decide) (by decide) hk1 hFc hP1 hD1
  have hK := (hK.sub (tys' := [(d0, .long)]) [0] rfl).app hK1
  generalize H1 = H at hP hS ⊢
  have hP : va_P (dC, dI) ld_Cl [ld_O h0 0 a0, ld_A a0 d0 f] H := hP
  have hD : va_D A [ld_O h0 0 a0, ld_A a0 d0 f] := hD
  have hK : va_K (dC, dI) ld_Cl [(d0, .long)] s := hK
  have hw : r_30 = nI (ld_fr x) := hw
  subst hw
  refine lv_istore_n (lv' := [(3, .int (nI (ld_fr x))), (0, .ref h0), (1, .int x), (2, .int y)]) hx hb dX0_reverse_5 rfl hl (by decide) rfl (fun ls hl => ?_)
  refine lv_aload_n hx hb dX0_reverse_6 rfl (lv_at hl 1 rfl) ?_
  refine va_get (D := (dC, dI)) (ci := 0) (v := .ref a0) (C := RX0) (T := TX0) (N := 1) hx hb hts in_X0 hown hK hP 0 rfl rfl 0 (by decide) (hts _ q24) (fun _ h9 => h9) rfl dX0_reverse_7 ?_
  refine lv_iload_n hx hb dX0_reverse_10 rfl (lv_at hl 0 rfl) ?_
  refine lv_aload_n hx hb dX0_reverse_11 rfl (lv_at hl 1 rfl) ?_
  refine lv_iload_n hx hb dX0_reverse_12 rfl (lv_at hl 0 rfl) ?_
  refine lv_iload_n hx hb dX0_reverse_13 rfl (lv_at hl 3 rfl) ?_
  have hPc := hP.sub (ws' := []) [] rfl
  have hDc := hD.sub (ws' := []) [] (by decide) rfl
  have hKc := hK.sub (tys' := []) [] rfl
  have hFc := va_free (wc := []) hD hS hA [] rfl
  refine va_calli (va_runV (As := [.int (nI (ld_fr x)), .int y]) (rest := [.int (nI (ld_fr x)), .ref a0]) ⟨hx, hb, hml, hown, hts⟩ (metX0_to l dC dI H.size h0 (ld_fr x) y (ld_fr_le x)) (cwV 2 hts (lw_V q50 q52 qs1 q5 q53) rfl rfl rfl (by decide +kernel) ⟨Nat.le_of_ble_eq_true rfl, Nat.le_of_ble_eq_true rfl⟩) ⟨fun a U g mk q => by obtain ⟨q0, q1, qP, qK, qD⟩ := q; exact ⟨q0, q1, qP, va_K.moved (u := U) (U := U.calling g mk a) (Vm.Alike.refl U.vm) qK, qD⟩, va_recv hK hP (ci := 0) (q0 := 0) rfl rfl, fun U hU hW => ⟨rfl, by rw [hU], by rw [hU]; exact hPc, va_K.moved hW.alike hKc, hDc.weaken (fun _ _ _ _ => trivial)⟩⟩ rfl rfl hl.1 rfl (lv_room (Nat.le_of_ble_eq_true rfl)) dX0_reverse_14 ⟨Nat.le_of_ble_eq_true rfl, Nat.le_of_ble_eq_true rfl⟩) hS (fun q _ h => hFc q h) hFc (fun r_31 u t H1 locs ht hvm hw hB hz1 hk1 hS => ?_)
  obtain ⟨hP1, hK1, hD1⟩ := hB
  rw [ht] at hP1
  have hK1 := va_K.moved hvm.symm hK1
  obtain ⟨hP, hD⟩ := va_join (wr := [ld_O h0 0 a0, ld_A a0 d0 f]) (w1 := []) hP hD [] [0, 1] rfl rfl (by decide) (by decide) hk1 hFc hP1 hD1
  have hK := (hK.sub (tys' := [(d0, .long)]) [0] rfl).app hK1
  generalize H1 = H at hP hS ⊢
  have hP : va_P (dC, dI) ld_Cl [ld_O h0 0 a0, ld_A a0 d0 f] H := hP
  have hD : va_D A [ld_O h0 0 a0, ld_A a0 d0 f] := hD
  have hK : va_K (dC, dI) ld_Cl [(d0, .long)] s := hK
  have hw : r_31 = nI (ld_tk (ld_fr x) y) := hw
  subst hw
  have hPc := hP.sub (ws' := [ld_A a0 d0 f]) [1] rfl
  have hDc := hD.sub (ws' := [ld_A a0 d0 f]) [1] (by decide) rfl
  have hKc := hK.sub (tys' := [(d0, .long)]) [0] rfl
  have hFc := va_free (wc := [ld_A a0 d0 f]) hD hS hA [1] rfl
  refine va_callv (va_runS (As := [.ref a0, .int (nI (ld_fr x)), .int (nI (ld_tk (ld_fr x) y))]) (rest := []) ⟨hx, hb, hml, hown, hts⟩ (metX2_reverse l dC dI H.size d0 a0 f (ld_fr x) (ld_tk (ld_fr x) y) (ld_tk_in (ld_fr_le x) y).1 (ld_tk_in (ld_fr_le x) y).2) (va_cwS 3 hts (lw_S q54 q55 q7 q56) rfl rfl rfl (by decide +kernel) ⟨Nat.le_of_ble_eq_true rfl, Nat.le_of_ble_eq_true rfl⟩) ⟨fun a U g mk q => by obtain ⟨q0, q1, qP, qK, qD⟩ := q; exact ⟨q0, q1, qP, va_K.moved (u := U) (U := U.calling g mk a) (Vm.Alike.refl U.vm) qK, qD⟩, fun U hU hW => ⟨rfl, by rw [hU], by rw [hU]; exact hPc, va_K.moved hW.alike hKc, hDc.weaken (fun _ _ _ _ => trivial)⟩⟩ rfl rfl hl.1 rfl (lv_room (Nat.le_of_ble_eq_true rfl)) dX0_reverse_17 ⟨Nat.le_of_ble_eq_true rfl, Nat.le_of_ble_eq_true rfl⟩) hS (fun q _ h => hFc q h) hFc (fun g t H1 locs ht hvm hw hB hz1 hk1 hS => ?_)
  obtain ⟨hP1, hK1, hD1⟩ := hB
  rw [ht] at hP1
  have hK1 := va_K.moved hvm.symm hK1
  obtain ⟨hP, hD⟩ := va_join (wr := [ld_O h0 0 a0]) (w1 := [ld_A a0 d0 g]) hP hD [1] [0] rfl rfl (by decide) (by decide) hk1 hFc hP1 hD1
  have hK := (hK.sub (tys' := []) [] rfl).app hK1
  generalize H1 = H at hP hS ⊢
  have hP : va_P (dC, dI) ld_Cl [ld_O h0 0 a0, ld_A a0 d0 g] H := hP
  have hD : va_D A [ld_O h0 0 a0, ld_A a0 d0 g] := hD
  have hK : va_K (dC, dI) ld_Cl [(d0, .long)] s := hK
  have hP9 := hP.sub (ws' := [ld_O h0 0 a0, ld_A a0 d0 g]) [0, 1] rfl
  have hD9 := hD.sub (ws' := [ld_O h0 0 a0, ld_A a0 d0 g]) [0, 1] (by decide) rfl
  have hK9 := hK.sub (tys' := [(d0, .long)]) [0] rfl
  exact W.vret hx hb hr (fun t ht hW => ⟨⟨g, rfl, hw, by rw [ht]; exact hP9, va_K.moved hW.alike hK9, hD9⟩, hS.F ht⟩) hS.2.2 dX0_reverse_20
set_option maxHeartbeats 4000000 in
set_option maxRecDepth 100000 in
/-- LongRowDesk.most -/
theorem metX0_most (l : Launch) (dC : Nat → ClassId) (dI : Nat → Nat → Nat) (sz : Nat) (h0 a0 : Nat) (d0 : ClassId) (f : Nat → Int64) : Met l yX0_most (ws_ yX0_most cX0_most 1 (some .long)) ({ frames := 2, cells := 0, slots := 0, locals := 64 } : Room) (va_Pc [.ref h0] (fun U => ld_I dC dI sz [ld_O h0 0 a0, ld_A a0 d0 f] [(d0, .long)] U)) (va_Ql (fun (r : Int64) (_ : Unit) => r = ld_mx f 12) (ld_B dC dI (va_A [ld_O h0 0 a0, ld_A a0 d0 f] sz) (fun (_ : Unit) => [ld_O h0 0 a0, ld_A a0 d0 f]) [(d0, .long)]) (va_A [ld_O h0 0 a0, ld_A a0 d0 f] sz)) 0 0 (va_A [ld_O h0 0 a0, ld_A a0 d0 f] sz) := by
  refine Met.ofW (cc := cX0_most) (maxL := 1) (ret := (some .long)) (by decide) rfl ?_
  intro p e s m args below meth c s₁ B hml hv
  obtain ⟨rfl, hsz, hP, hK, hD0⟩ := hv
  have hx := B.exec
  have hb := B.bytes
  have hr := B.returns
  have hts := atoms_spec (ws := (ws_ yX0_most cX0_most 1 (some .long))) B.pre
  have hts : ∀ w ∈ lw_all, w.before _ s = true := fun w h => hts w (List.mem_cons_of_mem _ h)
  have hown : s.vm.findClass RX0 = some m.cls := findClass_of_methodNamed B.named
  have hlocks := B.notSynchronized
  subst hsz
  have hD := hD0.self (sz := s.heap.size)
  generalize hAe : va_A [ld_O h0 0 a0, ld_A a0 d0 f] s.heap.size = A at hD ⊢
  have hA : ∀ q : Nat, s.heap.size ≤ q → A q := fun q h => by rw [← hAe]; exact Or.inr h
  have hS : va_S A s.heap s.heap [] := va_S.rf
  have hP : va_P (dC, dI) ld_Cl [ld_O h0 0 a0, ld_A a0 d0 f] s.heap := hP
  have hl := lv_entry ([.ref h0]) (n := 1) (Nat.le_of_ble_eq_true rfl)
  rw [lg_entry_eq]
  generalize (lg_sl ([.ref h0]) ++ List.replicate (1 - (lg_sl ([.ref h0])).length) Slot.unset).toArray = ls at hl ⊢
  have hl : lv_has ls 1 [(0, .ref h0)] := hl
  refine lv_aload_n hx hb dX0_most_0 rfl (lv_at hl 0 rfl) ?_
  refine va_get (D := (dC, dI)) (ci := 0) (v := .ref a0) (C := RX0) (T := TX0) (N := 1) hx hb hts in_X0 hown hK hP 0 rfl rfl 0 (by decide) (hts _ q24) (fun _ h9 => h9) rfl dX0_most_1 ?_
  have hPc := hP.sub (ws' := [ld_A a0 d0 f]) [1] rfl
  have hDc := hD.sub (ws' := [ld_A a0 d0 f]) [1] (by decide) rfl
  have hKc := hK.sub (tys' := [(d0, .long)]) [0] rfl
  have hFc := va_free (wc := [ld_A a0 d0 f]) hD hS hA [1] rfl
  refine va_calll (va_runS (As := [.ref a0]) (rest := []) ⟨hx, hb, hml, hown, hts⟩ (metX2_max l dC dI s.heap.size d0 a0 f) (va_cwS 1 hts (lw_S q171 q172 q7 q173) rfl rfl rfl (by decide +kernel) ⟨Nat.le_of_ble_eq_true rfl, Nat.le_of_ble_eq_true rfl⟩) ⟨fun a U g mk q => by obtain ⟨q0, q1, qP, qK, qD⟩ := q; exact ⟨q0, q1, qP, va_K.moved (u := U) (U := U.calling g mk a) (Vm.Alike.refl U.vm) qK, qD⟩, fun U hU hW => ⟨rfl, by rw [hU], by rw [hU]; exact hPc, va_K.moved hW.alike hKc, hDc.weaken (fun _ _ _ _ => trivial)⟩⟩ rfl rfl hl.1 rfl (lv_room (Nat.le_of_ble_eq_true rfl)) dX0_most_4 ⟨Nat.le_of_ble_eq_true rfl, Nat.le_of_ble_eq_true rfl⟩) hS (fun q _ h => hFc q h) hFc (fun r_33 u t H1 locs ht hvm hw hB hz1 hk1 hS => ?_)
  obtain ⟨hP1, hK1, hD1⟩ := hB
  rw [ht] at hP1
  have hK1 := va_K.moved hvm.symm hK1
  obtain ⟨hP, hD⟩ := va_join (wr := [ld_O h0 0 a0]) (w1 := [ld_A a0 d0 f]) hP hD [1] [0] rfl rfl (by decide) (by decide) hk1 hFc hP1 hD1
  have hK := (hK.sub (tys' := []) [] rfl).app hK1
  generalize H1 = H at hP hS ⊢
  have hP : va_P (dC, dI) ld_Cl [ld_O h0 0 a0, ld_A a0 d0 f] H := hP
  have hD : va_D A [ld_O h0 0 a0, ld_A a0 d0 f] := hD
  have hK : va_K (dC, dI) ld_Cl [(d0, .long)] s := hK
  have hP9 := hP.sub (ws' := [ld_O h0 0 a0, ld_A a0 d0 f]) [0, 1] rfl
  have hD9 := hD.sub (ws' := [ld_O h0 0 a0, ld_A a0 d0 f]) [0, 1] (by decide) rfl
  have hK9 := hK.sub (tys' := [(d0, .long)]) [0] rfl
  exact W.lret (v := r_33) hx hb hr (fun t ht hW => ⟨⟨r_33, (), rfl, hw, by rw [ht]; exact hP9, va_K.moved hW.alike hK9, hD9⟩, hS.F ht⟩) hS.2.2 dX0_most_7
set_option maxHeartbeats 4000000 in
set_option maxRecDepth 100000 in
/-- LongRowDesk.least -/
theorem metX0_least (l : Launch) (dC : Nat → ClassId) (dI : Nat → Nat → Nat) (sz : Nat) (h0 a0 : Nat) (d0 : ClassId) (f : Nat → Int64) : Met l yX0_least (ws_ yX0_least cX0_least 1 (some .long)) ({ frames := 2, cells := 0, slots := 0, locals := 64 } : Room) (va_Pc [.ref h0] (fun U => ld_I dC dI sz [ld_O h0 0 a0, ld_A a0 d0 f] [(d0, .long)] U)) (va_Ql (fun (r : Int64) (_ : Unit) => r = ld_mn f 12) (ld_B dC dI (va_A [ld_O h0 0 a0, ld_A a0 d0 f] sz) (fun (_ : Unit) => [ld_O h0 0 a0, ld_A a0 d0 f]) [(d0, .long)]) (va_A [ld_O h0 0 a0, ld_A a0 d0 f] sz)) 0 0 (va_A [ld_O h0 0 a0, ld_A a0 d0 f] sz) := by
  refine Met.ofW (cc := cX0_least) (maxL := 1) (ret := (some .long)) (by decide) rfl ?_
  intro p e s m args below meth c s₁ B hml hv
  obtain ⟨rfl, hsz, hP, hK, hD0⟩ := hv
  have hx := B.exec
  have hb := B.bytes
  have hr := B.returns
  have hts := atoms_spec (ws := (ws_ yX0_least cX0_least 1 (some .long))) B.pre
  have hts : ∀ w ∈ lw_all, w.before _ s = true := fun w h => hts w (List.mem_cons_of_mem _ h)
  have hown : s.vm.findClass RX0 = some m.cls := findClass_of_methodNamed B.named
  have hlocks := B.notSynchronized
  subst hsz
  have hD := hD0.self (sz := s.heap.size)
  generalize hAe : va_A [ld_O h0 0 a0, ld_A a0 d0 f] s.heap.size = A at hD ⊢
  have hA : ∀ q : Nat, s.heap.size ≤ q → A q := fun q h => by rw [← hAe]; exact Or.inr h
  have hS : va_S A s.heap s.heap [] := va_S.rf
  have hP : va_P (dC, dI) ld_Cl [ld_O h0 0 a0, ld_A a0 d0 f] s.heap := hP
  have hl := lv_entry ([.ref h0]) (n := 1) (Nat.le_of_ble_eq_true rfl)
  rw [lg_entry_eq]
  generalize (lg_sl ([.ref h0]) ++ List.replicate (1 - (lg_sl ([.ref h0])).length) Slot.unset).toArray = ls at hl ⊢
  have hl : lv_has ls 1 [(0, .ref h0)] := hl
  refine lv_aload_n hx hb dX0_least_0 rfl (lv_at hl 0 rfl) ?_
  refine va_get (D := (dC, dI)) (ci := 0) (v := .ref a0) (C := RX0) (T := TX0) (N := 1) hx hb hts in_X0 hown hK hP 0 rfl rfl 0 (by decide) (hts _ q24) (fun _ h9 => h9) rfl dX0_least_1 ?_
  have hPc := hP.sub (ws' := [ld_A a0 d0 f]) [1] rfl
  have hDc := hD.sub (ws' := [ld_A a0 d0 f]) [1] (by decide) rfl
  have hKc := hK.sub (tys' := [(d0, .long)]) [0] rfl
  have hFc := va_free (wc := [ld_A a0 d0 f]) hD hS hA [1] rfl
  refine va_calll (va_runS (As := [.ref a0]) (rest := []) ⟨hx, hb, hml, hown, hts⟩ (metX2_min l dC dI s.heap.size d0 a0 f) (va_cwS 1 hts (lw_S q196 q197 q7 q198) rfl rfl rfl (by decide +kernel) ⟨Nat.le_of_ble_eq_true rfl, Nat.le_of_ble_eq_true rfl⟩) ⟨fun a U g mk q => by obtain ⟨q0, q1, qP, qK, qD⟩ := q; exact ⟨q0, q1, qP, va_K.moved (u := U) (U := U.calling g mk a) (Vm.Alike.refl U.vm) qK, qD⟩, fun U hU hW => ⟨rfl, by rw [hU], by rw [hU]; exact hPc, va_K.moved hW.alike hKc, hDc.weaken (fun _ _ _ _ => trivial)⟩⟩ rfl rfl hl.1 rfl (lv_room (Nat.le_of_ble_eq_true rfl)) dX0_least_4 ⟨Nat.le_of_ble_eq_true rfl, Nat.le_of_ble_eq_true rfl⟩) hS (fun q _ h => hFc q h) hFc (fun r_34 u t H1 locs ht hvm hw hB hz1 hk1 hS => ?_)
  obtain ⟨hP1, hK1, hD1⟩ := hB
  rw [ht] at hP1
  have hK1 := va_K.moved hvm.symm hK1
  obtain ⟨hP, hD⟩ := va_join (wr := [ld_O h0 0 a0]) (w1 := [ld_A a0 d0 f]) hP hD [1] [0] rfl rfl (by decide) (by decide) hk1 hFc hP1 hD1
  have hK := (hK.sub (tys' := []) [] rfl).app hK1
  generalize H1 = H at hP hS ⊢
  have hP : va_P (dC, dI) ld_Cl [ld_O h0 0 a0, ld_A a0 d0 f] H := hP
  have hD : va_D A [ld_O h0 0 a0, ld_A a0 d0 f] := hD
  have hK : va_K (dC, dI) ld_Cl [(d0, .long)] s := hK
  have hP9 := hP.sub (ws' := [ld_O h0 0 a0, ld_A a0 d0 f]) [0, 1] rfl
  have hD9 := hD.sub (ws' := [ld_O h0 0 a0, ld_A a0 d0 f]) [0, 1] (by decide) rfl
  have hK9 := hK.sub (tys' := [(d0, .long)]) [0] rfl
  exact W.lret (v := r_34) hx hb hr (fun t ht hW => ⟨⟨r_34, (), rfl, hw, by rw [ht]; exact hP9, va_K.moved hW.alike hK9, hD9⟩, hS.F ht⟩) hS.2.2 dX0_least_7
set_option maxHeartbeats 4000000 in
set_option maxRecDepth 100000 in
/-- LongRowDesk.find -/
theorem metX0_find (l : Launch) (dC : Nat → ClassId) (dI : Nat → Nat → Nat) (sz : Nat) (h0 a0 : Nat) (d0 : ClassId) (f : Nat → Int64) (x y : Int32) : Met l yX0_find (ws_ yX0_find cX0_find 3 (some .int)) ({ frames := 2, cells := 0, slots := 0, locals := 64 } : Room) (va_Pc [.ref h0, .int x, .int y] (fun U => ld_I dC dI sz [ld_O h0 0 a0, ld_A a0 d0 f] [(d0, .long)] U)) (va_Qi (fun (r : Int32) (_ : Unit) => ld_first f (ld_wd x y) r) (ld_B dC dI (va_A [ld_O h0 0 a0, ld_A a0 d0 f] sz) (fun (_ : Unit) => [ld_O h0 0 a0, ld_A a0 d0 f]) [(d0, .long)]) (va_A [ld_O h0 0 a0, ld_A a0 d0 f] sz)) 0 0 (va_A [ld_O h0 0 a0, ld_A a0 d0 f] sz) := by
  refine Met.ofW (cc := cX0_find) (maxL := 3) (ret := (some .int)) (by decide) rfl ?_
  intro p e s m args below meth c s₁ B hml hv
  obtain ⟨rfl, hsz, hP, hK, hD0⟩ := hv
  have hx := B.exec
  have hb := B.bytes
  have hr := B.returns
  have hts := atoms_spec (ws := (ws_ yX0_find cX0_find 3 (some .int))) B.pre
  have hts : ∀ w ∈ lw_all, w.before _ s = true := fun w h => hts w (List.mem_cons_of_mem _ h)
  have hown : s.vm.findClass RX0 = some m.cls := findClass_of_methodNamed B.named
  have hlocks := B.notSynchronized
  subst hsz
  have hD := hD0.self (sz := s.heap.size)
  generalize hAe : va_A [ld_O h0 0 a0, ld_A a0 d0 f] s.heap.size = A at hD ⊢
  have hA : ∀ q : Nat, s.heap.size ≤ q → A q := fun q h => by rw [← hAe]; exact Or.inr h
  have hS : va_S A s.heap s.heap [] := va_S.rf
  have hP : va_P (dC, dI) ld_Cl [ld_O h0 0 a0, ld_A a0 d0 f] s.heap := hP
  have hl := lv_entry ([.ref h0, .int x, .int y]) (n := 3) (Nat.le_of_ble_eq_true rfl)
  rw [lg_entry_eq]
  generalize (lg_sl ([.ref h0, .int x, .int y]) ++ List.replicate (3 - (lg_sl ([.ref h0, .int x, .int y])).length) Slot.unset).toArray = ls at hl ⊢
  have hl : lv_has ls 3 [(0, .ref h0), (1, .int x), (2, .int y)] := hl
  refine lv_aload_n hx hb dX0_find_0 rfl (lv_at hl 0 rfl) ?_
  refine va_get (D := (dC, dI)) (ci := 0) (v := .ref a0) (C := RX0) (T := TX0) (N := 1) hx hb hts in_X0 hown hK hP 0 rfl rfl 0 (by decide) (hts _ q24) (fun _ h9 => h9) rfl dX0_find_1 ?_
  refine lv_iload_n hx hb dX0_find_4 rfl (lv_at hl 1 rfl) ?_
  refine lv_iload_n hx hb dX0_find_5 rfl (lv_at hl 2 rfl) ?_
  have hPc := hP.sub (ws' := []) [] rfl
  have hDc := hD.sub (ws' := []) [] (by decide) rfl
  have hKc := hK.sub (tys' := []) [] rfl
  have hFc := va_free (wc := []) hD hS hA [] rfl
  refine va_calll (va_runS (As := [.int x, .int y]) (rest := [.ref a0]) ⟨hx, hb, hml, hown, hts⟩ (metX0_wide l dC dI s.heap.size x y) (va_cwS 2 hts (lw_S q34 q35 q5 q36) rfl rfl rfl (by decide +kernel) ⟨Nat.le_of_ble_eq_true rfl, Nat.le_of_ble_eq_true rfl⟩) ⟨fun a U g mk q => by obtain ⟨q0, q1, qP, qK, qD⟩ := q; exact ⟨q0, q1, qP, va_K.moved (u := U) (U := U.calling g mk a) (Vm.Alike.refl U.vm) qK, qD⟩, fun U hU hW => ⟨rfl, by rw [hU], by rw [hU]; exact hPc, va_K.moved hW.alike hKc, hDc.weaken (fun _ _ _ _ => trivial)⟩⟩ rfl rfl hl.1 rfl (lv_room (Nat.le_of_ble_eq_true rfl)) dX0_find_6 ⟨Nat.le_of_ble_eq_true rfl, Nat.le_of_ble_eq_true rfl⟩) hS (fun q _ h => hFc q h) hFc (fun r_35 u t H1 locs ht hvm hw hB hz1 hk1 hS => ?_)
  obtain ⟨hP1, hK1, hD1⟩ := hB
  rw [ht] at hP1
  have hK1 := va_K.moved hvm.symm hK1
  obtain ⟨hP, hD⟩ := va_join (wr := [ld_O h0 0 a0, ld_A a0 d0 f]) (w1 := []) hP hD [] [0, 1] rfl rfl (by decide) (by decide) hk1 hFc hP1 hD1
  have hK := (hK.sub (tys' := [(d0, .long)]) [0] rfl).app hK1
  generalize H1 = H at hP hS ⊢
  have hP : va_P (dC, dI) ld_Cl [ld_O h0 0 a0, ld_A a0 d0 f] H := hP
  have hD : va_D A [ld_O h0 0 a0, ld_A a0 d0 f] := hD
  have hK : va_K (dC, dI) ld_Cl [(d0, .long)] s := hK
  have hw : r_35 = ld_wd x y := hw
  subst hw
  have hPc := hP.sub (ws' := [ld_A a0 d0 f]) [1] rfl
  have hDc := hD.sub (ws' := [ld_A a0 d0 f]) [1] (by decide) rfl
  have hKc := hK.sub (tys' := [(d0, .long)]) [0] rfl
  have hFc := va_free (wc := [ld_A a0 d0 f]) hD hS hA [1] rfl
  refine va_calli (va_runS (As := [.ref a0, .long (ld_wd x y)]) (rest := []) ⟨hx, hb, hml, hown, hts⟩ (metX2_indexOf l dC dI H.size d0 a0 f (ld_wd x y)) (va_cwS 2 hts (lw_S q203 q204 q7 q205) rfl rfl rfl (by decide +kernel) ⟨Nat.le_of_ble_eq_true rfl, Nat.le_of_ble_eq_true rfl⟩) ⟨fun a U g mk q => by obtain ⟨q0, q1, qP, qK, qD⟩ := q; exact ⟨q0, q1, qP, va_K.moved (u := U) (U := U.calling g mk a) (Vm.Alike.refl U.vm) qK, qD⟩, fun U hU hW => ⟨rfl, by rw [hU], by rw [hU]; exact hPc, va_K.moved hW.alike hKc, hDc.weaken (fun _ _ _ _ => trivial)⟩⟩ rfl rfl hl.1 rfl (lv_room (Nat.le_of_ble_eq_true rfl)) dX0_find_9 ⟨Nat.le_of_ble_eq_true rfl, Nat.le_of_ble_eq_true rfl⟩) hS (fun q _ h => hFc q h) hFc (fun r_36 u t H1 locs ht hvm hw hB hz1 hk1 hS => ?_)
  obtain ⟨hP1, hK1, hD1⟩ := hB
  rw [ht] at hP1
  have hK1 := va_K.moved hvm.symm hK1
  obtain ⟨hP, hD⟩ := va_join (wr := [ld_O h0 0 a0]) (w1 := [ld_A a0 d0 f]) hP hD [1] [0] rfl rfl (by decide) (by decide) hk1 hFc hP1 hD1
  have hK := (hK.sub (tys' := []) [] rfl).app hK1
  generalize H1 = H at hP hS ⊢
  have hP : va_P (dC, dI) ld_Cl [ld_O h0 0 a0, ld_A a0 d0 f] H := hP
  have hD : va_D A [ld_O h0 0 a0, ld_A a0 d0 f] := hD
  have hK : va_K (dC, dI) ld_Cl [(d0, .long)] s := hK
  have hP9 := hP.sub (ws' := [ld_O h0 0 a0, ld_A a0 d0 f]) [0, 1] rfl
  have hD9 := hD.sub (ws' := [ld_O h0 0 a0, ld_A a0 d0 f]) [0, 1] (by decide) rfl
  have hK9 := hK.sub (tys' := [(d0, .long)]) [0] rfl
  exact W.iret (v := r_36) hx hb hr (fun t ht hW => ⟨⟨r_36, (), rfl, hw, by rw [ht]; exact hP9, va_K.moved hW.alike hK9, hD9⟩, hS.F ht⟩) hS.2.2 dX0_find_12
set_option maxHeartbeats 4000000 in
set_option maxRecDepth 100000 in
/-- LongRowDesk.findLast -/
theorem metX0_findLast (l : Launch) (dC : Nat → ClassId) (dI : Nat → Nat → Nat) (sz : Nat) (h0 a0 : Nat) (d0 : ClassId) (f : Nat → Int64) (x y : Int32) : Met l yX0_findLast (ws_ yX0_findLast cX0_findLast 3 (some .int)) ({ frames := 2, cells := 0, slots := 0, locals := 64 } : Room) (va_Pc [.ref h0, .int x, .int y] (fun U => ld_I dC dI sz [ld_O h0 0 a0, ld_A a0 d0 f] [(d0, .long)] U)) (va_Qi (fun (r : Int32) (_ : Unit) => ld_last f (ld_wd x y) r) (ld_B dC dI (va_A [ld_O h0 0 a0, ld_A a0 d0 f] sz) (fun (_ : Unit) => [ld_O h0 0 a0, ld_A a0 d0 f]) [(d0, .long)]) (va_A [ld_O h0 0 a0, ld_A a0 d0 f] sz)) 0 0 (va_A [ld_O h0 0 a0, ld_A a0 d0 f] sz) := by
  refine Met.ofW (cc := cX0_findLast) (maxL := 3) (ret := (some .int)) (by decide) rfl ?_
  intro p e s m args below meth c s₁ B hml hv
  obtain ⟨rfl, hsz, hP, hK, hD0⟩ := hv
  have hx := B.exec
  have hb := B.bytes
  have hr := B.returns
  have hts := atoms_spec (ws := (ws_ yX0_findLast cX0_findLast 3 (some .int))) B.pre
  have hts : ∀ w ∈ lw_all, w.before _ s = true := fun w h => hts w (List.mem_cons_of_mem _ h)
  have hown : s.vm.findClass RX0 = some m.cls := findClass_of_methodNamed B.named
  have hlocks := B.notSynchronized
  subst hsz
  have hD := hD0.self (sz := s.heap.size)
  generalize hAe : va_A [ld_O h0 0 a0, ld_A a0 d0 f] s.heap.size = A at hD ⊢
  have hA : ∀ q : Nat, s.heap.size ≤ q → A q := fun q h => by rw [← hAe]; exact Or.inr h
  have hS : va_S A s.heap s.heap [] := va_S.rf
  have hP : va_P (dC, dI) ld_Cl [ld_O h0 0 a0, ld_A a0 d0 f] s.heap := hP
  have hl := lv_entry ([.ref h0, .int x, .int y]) (n := 3) (Nat.le_of_ble_eq_true rfl)
  rw [lg_entry_eq]
  generalize (lg_sl ([.ref h0, .int x, .int y]) ++ List.replicate (3 - (lg_sl ([.ref h0, .int x, .int y])).length) Slot.unset).toArray = ls at hl ⊢
  have hl : lv_has ls 3 [(0, .ref h0), (1, .int x), (2, .int y)] := hl
  refine lv_aload_n hx hb dX0_findLast_0 rfl (lv_at hl 0 rfl) ?_
  refine va_get (D := (dC, dI)) (ci := 0) (v := .ref a0) (C := RX0) (T := TX0) (N := 1) hx hb hts in_X0 hown hK hP 0 rfl rfl 0 (by decide) (hts _ q24) (fun _ h9 => h9) rfl dX0_findLast_1 ?_
  refine lv_iload_n hx hb dX0_findLast_4 rfl (lv_at hl 1 rfl) ?_
  refine lv_iload_n hx hb dX0_findLast_5 rfl (lv_at hl 2 rfl) ?_
  have hPc := hP.sub (ws' := []) [] rfl
  have hDc := hD.sub (ws' := []) [] (by decide) rfl
  have hKc := hK.sub (tys' := []) [] rfl
  have hFc := va_free (wc := []) hD hS hA [] rfl
  refine va_calll (va_runS (As := [.int x, .int y]) (rest := [.ref a0]) ⟨hx, hb, hml, hown, hts⟩ (metX0_wide l dC dI s.heap.size x y) (va_cwS 2 hts (lw_S q34 q35 q5 q36) rfl rfl rfl (by decide +kernel) ⟨Nat.le_of_ble_eq_true rfl, Nat.le_of_ble_eq_true rfl⟩) ⟨fun a U g mk q => by obtain ⟨q0, q1, qP, qK, qD⟩ := q; exact ⟨q0, q1, qP, va_K.moved (u := U) (U := U.calling g mk a) (Vm.Alike.refl U.vm) qK, qD⟩, fun U hU hW => ⟨rfl, by rw [hU], by rw [hU]; exact hPc, va_K.moved hW.alike hKc, hDc.weaken (fun _ _ _ _ => trivial)⟩⟩ rfl rfl hl.1 rfl (lv_room (Nat.le_of_ble_eq_true rfl)) dX0_findLast_6 ⟨Nat.le_of_ble_eq_true rfl, Nat.le_of_ble_eq_true rfl⟩) hS (fun q _ h => hFc q h) hFc (fun r_37 u t H1 locs ht hvm hw hB hz1 hk1 hS => ?_)
  obtain ⟨hP1, hK1, hD1⟩ := hB
  rw [ht] at hP1
  have hK1 := va_K.moved hvm.symm hK1
  obtain ⟨hP, hD⟩ := va_join (wr := [ld_O h0 0 a0, ld_A a0 d0 f]) (w1 := []) hP hD [] [0, 1] rfl rfl (by decide) (by decide) hk1 hFc hP1 hD1
  have hK := (hK.sub (tys' := [(d0, .long)]) [0] rfl).app hK1
  generalize H1 = H at hP hS ⊢
  have hP : va_P (dC, dI) ld_Cl [ld_O h0 0 a0, ld_A a0 d0 f] H := hP
  have hD : va_D A [ld_O h0 0 a0, ld_A a0 d0 f] := hD
  have hK : va_K (dC, dI) ld_Cl [(d0, .long)] s := hK
  have hw : r_37 = ld_wd x y := hw
  subst hw
  have hPc := hP.sub (ws' := [ld_A a0 d0 f]) [1] rfl
  have hDc := hD.sub (ws' := [ld_A a0 d0 f]) [1] (by decide) rfl
  have hKc := hK.sub (tys' := [(d0, .long)]) [0] rfl
  have hFc := va_free (wc := [ld_A a0 d0 f]) hD hS hA [1] rfl
  refine va_calli (va_runS (As := [.ref a0, .long (ld_wd x y)]) (rest := []) ⟨hx, hb, hml, hown, hts⟩ (metX2_lastIndexOf l dC dI H.size d0 a0 f (ld_wd x y)) (va_cwS 2 hts (lw_S q213 q214 q7 q215) rfl rfl rfl (by decide +kernel) ⟨Nat.le_of_ble_eq_true rfl, Nat.le_of_ble_eq_true rfl⟩) ⟨fun a U g mk q => by obtain ⟨q0, q1, qP, qK, qD⟩ := q; exact ⟨q0, q1, qP, va_K.moved (u := U) (U := U.calling g mk a) (Vm.Alike.refl U.vm) qK, qD⟩, fun U hU hW => ⟨rfl, by rw [hU], by rw [hU]; exact hPc, va_K.moved hW.alike hKc, hDc.weaken (fun _ _ _ _ => trivial)⟩⟩ rfl rfl hl.1 rfl (lv_room (Nat.le_of_ble_eq_true rfl)) dX0_findLast_9 ⟨Nat.le_of_ble_eq_true rfl, Nat.le_of_ble_eq_true rfl⟩) hS (fun q _ h => hFc q h) hFc (fun r_38 u t H1 locs ht hvm hw hB hz1 hk1 hS => ?_)
  obtain ⟨hP1, hK1, hD1⟩ := hB
  rw [ht] at hP1
  have hK1 := va_K.moved hvm.symm hK1
  obtain ⟨hP, hD⟩ := va_join (wr := [ld_O h0 0 a0]) (w1 := [ld_A a0 d0 f]) hP hD [1] [0] rfl rfl (by decide) (by decide) hk1 hFc hP1 hD1
  have hK := (hK.sub (tys' := []) [] rfl).app hK1
  generalize H1 = H at hP hS ⊢
  have hP : va_P (dC, dI) ld_Cl [ld_O h0 0 a0, ld_A a0 d0 f] H := hP
  have hD : va_D A [ld_O h0 0 a0, ld_A a0 d0 f] := hD
  have hK : va_K (dC, dI) ld_Cl [(d0, .long)] s := hK
  have hP9 := hP.sub (ws' := [ld_O h0 0 a0, ld_A a0 d0 f]) [0, 1] rfl
  have hD9 := hD.sub (ws' := [ld_O h0 0 a0, ld_A a0 d0 f]) [0, 1] (by decide) rfl
  have hK9 := hK.sub (tys' := [(d0, .long)]) [0] rfl
  exact W.iret (v := r_38) hx hb hr (fun t ht hW => ⟨⟨r_38, (), rfl, hw, by rw [ht]; exact hP9, va_K.moved hW.alike hK9, hD9⟩, hS.F ht⟩) hS.2.2 dX0_findLast_12
set_option maxHeartbeats 4000000 in
set_option maxRecDepth 100000 in
/-- LongRowDesk.has -/
theorem metX0_has (l : Launch) (dC : Nat → ClassId) (dI : Nat → Nat → Nat) (sz : Nat) (h0 a0 : Nat) (d0 : ClassId) (f : Nat → Int64) (x y : Int32) : Met l yX0_has (ws_ yX0_has cX0_has 3 (some .boolean)) ({ frames := 2, cells := 0, slots := 0, locals := 64 } : Room) (va_Pc [.ref h0, .int x, .int y] (fun U => ld_I dC dI sz [ld_O h0 0 a0, ld_A a0 d0 f] [(d0, .long)] U)) (va_Qi (fun (r : Int32) (_ : Unit) => ld_has f (ld_wd x y) r) (ld_B dC dI (va_A [ld_O h0 0 a0, ld_A a0 d0 f] sz) (fun (_ : Unit) => [ld_O h0 0 a0, ld_A a0 d0 f]) [(d0, .long)]) (va_A [ld_O h0 0 a0, ld_A a0 d0 f] sz)) 0 0 (va_A [ld_O h0 0 a0, ld_A a0 d0 f] sz) := by
  refine Met.ofW (cc := cX0_has) (maxL := 3) (ret := (some .boolean)) (by decide) rfl ?_
  intro p e s m args below meth c s₁ B hml hv
  obtain ⟨rfl, hsz, hP, hK, hD0⟩ := hv
  have hx := B.exec
  have hb := B.bytes
  have hr := B.returns
  have hts := atoms_spec (ws := (ws_ yX0_has cX0_has 3 (some .boolean))) B.pre
  have hts : ∀ w ∈ lw_all, w.before _ s = true := fun w h => hts w (List.mem_cons_of_mem _ h)
  have hown : s.vm.findClass RX0 = some m.cls := findClass_of_methodNamed B.named
  have hlocks := B.notSynchronized
  subst hsz
  have hD := hD0.self (sz := s.heap.size)
  generalize hAe : va_A [ld_O h0 0 a0, ld_A a0 d0 f] s.heap.size = A at hD ⊢
  have hA : ∀ q : Nat, s.heap.size ≤ q → A q := fun q h => by rw [← hAe]; exact Or.inr h
  have hS : va_S A s.heap s.heap [] := va_S.rf
  have hP : va_P (dC, dI) ld_Cl [ld_O h0 0 a0, ld_A a0 d0 f] s.heap := hP
  have hl := lv_entry ([.ref h0, .int x, .int y]) (n := 3) (Nat.le_of_ble_eq_true rfl)
  rw [lg_entry_eq]
  generalize (lg_sl ([.ref h0, .int x, .int y]) ++ List.replicate (3 - (lg_sl ([.ref h0, .int x, .int y])).length) Slot.unset).toArray = ls at hl ⊢
  have hl : lv_has ls 3 [(0, .ref h0), (1, .int x), (2, .int y)] := hl
  refine lv_aload_n hx hb dX0_has_0 rfl (lv_at hl 0 rfl) ?_
  refine va_get (D := (dC, dI)) (ci := 0) (v := .ref a0) (C := RX0) (T := TX0) (N := 1) hx hb hts in_X0 hown hK hP 0 rfl rfl 0 (by decide) (hts _ q24) (fun _ h9 => h9) rfl dX0_has_1 ?_
  refine lv_iload_n hx hb dX0_has_4 rfl (lv_at hl 1 rfl) ?_
  refine lv_iload_n hx hb dX0_has_5 rfl (lv_at hl 2 rfl) ?_
  have hPc := hP.sub (ws' := []) [] rfl
  have hDc := hD.sub (ws' := []) [] (by decide) rfl
  have hKc := hK.sub (tys' := []) [] rfl
  have hFc := va_free (wc := []) hD hS hA [] rfl
  refine va_calll (va_runS (As := [.int x, .int y]) (rest := [.ref a0]) ⟨hx, hb, hml, hown, hts⟩ (metX0_wide l dC dI s.heap.size x y) (va_cwS 2 hts (lw_S q34 q35 q5 q36) rfl rfl rfl (by decide +kernel) ⟨Nat.le_of_ble_eq_true rfl, Nat.le_of_ble_eq_true rfl⟩) ⟨fun a U g mk q => by obtain ⟨q0, q1, qP, qK, qD⟩ := q; exact ⟨q0, q1, qP, va_K.moved (u := U) (U := U.calling g mk a) (Vm.Alike.refl U.vm) qK, qD⟩, fun U hU hW => ⟨rfl, by rw [hU], by rw [hU]; exact hPc, va_K.moved hW.alike hKc, hDc.weaken (fun _ _ _ _ => trivial)⟩⟩ rfl rfl hl.1 rfl (lv_room (Nat.le_of_ble_eq_true rfl)) dX0_has_6 ⟨Nat.le_of_ble_eq_true rfl, Nat.le_of_ble_eq_true rfl⟩) hS (fun q _ h => hFc q h) hFc (fun r_39 u t H1 locs ht hvm hw hB hz1 hk1 hS => ?_)
  obtain ⟨hP1, hK1, hD1⟩ := hB
  rw [ht] at hP1
  have hK1 := va_K.moved hvm.symm hK1
  obtain ⟨hP, hD⟩ := va_join (wr := [ld_O h0 0 a0, ld_A a0 d0 f]) (w1 := []) hP hD [] [0, 1] rfl rfl (by decide) (by decide) hk1 hFc hP1 hD1
  have hK := (hK.sub (tys' := [(d0, .long)]) [0] rfl).app hK1
  generalize H1 = H at hP hS ⊢
  have hP : va_P (dC, dI) ld_Cl [ld_O h0 0 a0, ld_A a0 d0 f] H := hP
  have hD : va_D A [ld_O h0 0 a0, ld_A a0 d0 f] := hD
  have hK : va_K (dC, dI) ld_Cl [(d0, .long)] s := hK
  have hw : r_39 = ld_wd x y := hw
  subst hw
  have hPc := hP.sub (ws' := [ld_A a0 d0 f]) [1] rfl
  have hDc := hD.sub (ws' := [ld_A a0 d0 f]) [1] (by decide) rfl
  have hKc := hK.sub (tys' := [(d0, .long)]) [0] rfl
  have hFc := va_free (wc := [ld_A a0 d0 f]) hD hS hA [1] rfl
  refine va_calli (va_runS (As := [.ref a0, .long (ld_wd x y)]) (rest := []) ⟨hx, hb, hml, hown, hts⟩ (metX2_contains l dC dI H.size d0 a0 f (ld_wd x y)) (va_cwS 2 hts (lw_S q223 q224 q7 q225) rfl rfl rfl (by decide +kernel) ⟨Nat.le_of_ble_eq_true rfl, Nat.le_of_ble_eq_true rfl⟩) ⟨fun a U g mk q => by obtain ⟨q0, q1, qP, qK, qD⟩ := q; exact ⟨q0, q1, qP, va_K.moved (u := U) (U := U.calling g mk a) (Vm.Alike.refl U.vm) qK, qD⟩, fun U hU hW => ⟨rfl, by rw [hU], by rw [hU]; exact hPc, va_K.moved hW.alike hKc, hDc.weaken (fun _ _ _ _ => trivial)⟩⟩ rfl rfl hl.1 rfl (lv_room (Nat.le_of_ble_eq_true rfl)) dX0_has_9 ⟨Nat.le_of_ble_eq_true rfl, Nat.le_of_ble_eq_true rfl⟩) hS (fun q _ h => hFc q h) hFc (fun r_40 u t H1 locs ht hvm hw hB hz1 hk1 hS => ?_)
  obtain ⟨hP1, hK1, hD1⟩ := hB
  rw [ht] at hP1
  have hK1 := va_K.moved hvm.symm hK1
  obtain ⟨hP, hD⟩ := va_join (wr := [ld_O h0 0 a0]) (w1 := [ld_A a0 d0 f]) hP hD [1] [0] rfl rfl (by decide) (by decide) hk1 hFc hP1 hD1
  have hK := (hK.sub (tys' := []) [] rfl).app hK1
  generalize H1 = H at hP hS ⊢
  have hP : va_P (dC, dI) ld_Cl [ld_O h0 0 a0, ld_A a0 d0 f] H := hP
  have hD : va_D A [ld_O h0 0 a0, ld_A a0 d0 f] := hD
  have hK : va_K (dC, dI) ld_Cl [(d0, .long)] s := hK
  have hz : ∀ r : Int32, ld_has f (ld_wd x y) r → narrow .boolean (.int r) = .int r := by
    intro r h
    rcases h with ⟨e, -⟩ | ⟨e, -⟩ <;> rw [e] <;> decide +kernel
  have hP9 := hP.sub (ws' := [ld_O h0 0 a0, ld_A a0 d0 f]) [0, 1] rfl
  have hD9 := hD.sub (ws' := [ld_O h0 0 a0, ld_A a0 d0 f]) [0, 1] (by decide) rfl
  have hK9 := hK.sub (tys' := [(d0, .long)]) [0] rfl
  exact W.zret (v := r_40) hx hb hr (hz _ hw) (fun t ht hW => ⟨⟨r_40, (), rfl, hw, by rw [ht]; exact hP9, va_K.moved hW.alike hK9, hD9⟩, hS.F ht⟩) hS.2.2 dX0_has_12
end
section
/-! LongRowDesk: ofBytes, letter, within -/
set_option maxRecDepth 100000
set_option maxHeartbeats 4000000 in
set_option maxRecDepth 100000 in
/-- LongRowDesk.ofBytes -/
theorem metX0_ofBytes (l : Launch) (dC : Nat → ClassId) (dI : Nat → Nat → Nat) (sz : Nat) (h0 a0 : Nat) (d0 : ClassId) (f : Nat → Int64) (x y : Int32) : Met l yX0_ofBytes (ws_ yX0_ofBytes cX0_ofBytes 3 (some .long)) ({ frames := 1, cells := 0, slots := 0, locals := 32 } : Room) (va_Pc [.ref h0, .int x, .int y] (fun U => ld_I dC dI sz [ld_O h0 0 a0, ld_A a0 d0 f] [(d0, .long)] U)) (va_Ql (fun (r : Int64) (_ : Unit) => r = ld_wd x y) (ld_B dC dI (va_A [ld_O h0 0 a0, ld_A a0 d0 f] sz) (fun (_ : Unit) => [ld_O h0 0 a0, ld_A a0 d0 f]) [(d0, .long)]) (va_A [ld_O h0 0 a0, ld_A a0 d0 f] sz)) 0 0 (va_A [ld_O h0 0 a0, ld_A a0 d0 f] sz) := by
  refine Met.ofW (cc := cX0_ofBytes) (maxL := 3) (ret := (some .long)) (by decide) rfl ?_
  intro p e s m args below meth c s₁ B hml hv
  obtain ⟨rfl, hsz, hP, hK, hD0⟩ := hv
  have hx := B.exec
  have hb := B.bytes
  have hr := B.returns
  have hts := atoms_spec (ws := (ws_ yX0_ofBytes cX0_ofBytes 3 (some .long))) B.pre
  have hts : ∀ w ∈ lw_all, w.before _ s = true := fun w h => hts w (List.mem_cons_of_mem _ h)
  have hown : s.vm.findClass RX0 = some m.cls := findClass_of_methodNamed B.named
  have hlocks := B.notSynchronized
  subst hsz
  have hD := hD0.self (sz := s.heap.size)
  generalize hAe : va_A [ld_O h0 0 a0, ld_A a0 d0 f] s.heap.size = A at hD ⊢
  have hA : ∀ q : Nat, s.heap.size ≤ q → A q := fun q h => by rw [← hAe]; exact Or.inr h
  have hS : va_S A s.heap s.heap [] := va_S.rf
  have hP : va_P (dC, dI) ld_Cl [ld_O h0 0 a0, ld_A a0 d0 f] s.heap := hP
  have hl := lv_entry ([.ref h0, .int x, .int y]) (n := 3) (Nat.le_of_ble_eq_true rfl)
  rw [lg_entry_eq]
  generalize (lg_sl ([.ref h0, .int x, .int y]) ++ List.replicate (3 - (lg_sl ([.ref h0, .int x, .int y])).length) Slot.unset).toArray = ls at hl ⊢
  have hl : lv_has ls 3 [(0, .ref h0), (1, .int x), (2, .int y)] := hl
  refine lv_iload_n hx hb dX0_ofBytes_0 rfl (lv_at hl 1 rfl) ?_
  refine lv_bipush (v := nI 24) hx hb dX0_ofBytes_1 (by decide +kernel) ?_
  refine lv_ishr hx hb dX0_ofBytes_3 ?_
  refine lv_i2b hx hb dX0_ofBytes_4 rfl ?_
  refine lv_iload_n hx hb dX0_ofBytes_5 rfl (lv_at hl 1 rfl) ?_
  refine lv_bipush (v := nI 16) hx hb dX0_ofBytes_6 (by decide +kernel) ?_
  refine lv_ishr hx hb dX0_ofBytes_8 ?_
  refine lv_i2b hx hb dX0_ofBytes_9 rfl ?_
  refine lv_iload_n hx hb dX0_ofBytes_10 rfl (lv_at hl 1 rfl) ?_
  refine lv_bipush (v := nI 8) hx hb dX0_ofBytes_11 (by decide +kernel) ?_
  refine lv_ishr hx hb dX0_ofBytes_13 ?_
  refine lv_i2b hx hb dX0_ofBytes_14 rfl ?_
  refine lv_iload_n hx hb dX0_ofBytes_15 rfl (lv_at hl 1 rfl) ?_
  refine lv_i2b hx hb dX0_ofBytes_16 rfl ?_
  refine lv_iload_n hx hb dX0_ofBytes_17 rfl (lv_at hl 2 rfl) ?_
  refine lv_bipush (v := nI 24) hx hb dX0_ofBytes_18 (by decide +kernel) ?_
  refine lv_ishr hx hb dX0_ofBytes_20 ?_
  refine lv_i2b hx hb dX0_ofBytes_21 rfl ?_
  refine lv_iload_n hx hb dX0_ofBytes_22 rfl (lv_at hl 2 rfl) ?_
  refine lv_bipush (v := nI 16) hx hb dX0_ofBytes_23 (by decide +kernel) ?_
  refine lv_ishr hx hb dX0_ofBytes_25 ?_
  refine lv_i2b hx hb dX0_ofBytes_26 rfl ?_
  refine lv_iload_n hx hb dX0_ofBytes_27 rfl (lv_at hl 2 rfl) ?_
  refine lv_bipush (v := nI 8) hx hb dX0_ofBytes_28 (by decide +kernel) ?_
  refine lv_ishr hx hb dX0_ofBytes_30 ?_
  refine lv_i2b hx hb dX0_ofBytes_31 rfl ?_
  refine lv_iload_n hx hb dX0_ofBytes_32 rfl (lv_at hl 2 rfl) ?_
  refine lv_i2b hx hb dX0_ofBytes_33 rfl ?_
  have hPc := hP.sub (ws' := []) [] rfl
  have hDc := hD.sub (ws' := []) [] (by decide) rfl
  have hKc := hK.sub (tys' := []) [] rfl
  have hFc := va_free (wc := []) hD hS hA [] rfl
  refine va_calll (va_runS (As := [.int ((x >>> (((nI 24)) &&& 31))).toInt8.toInt32, .int ((x >>> (((nI 16)) &&& 31))).toInt8.toInt32, .int ((x >>> (((nI 8)) &&& 31))).toInt8.toInt32, .int x.toInt8.toInt32, .int ((y >>> (((nI 24)) &&& 31))).toInt8.toInt32, .int ((y >>> (((nI 16)) &&& 31))).toInt8.toInt32, .int ((y >>> (((nI 8)) &&& 31))).toInt8.toInt32, .int y.toInt8.toInt32]) (rest := []) ⟨hx, hb, hml, hown, hts⟩ (metX2_fromBytes l dC dI s.heap.size (((x >>> (((nI 24)) &&& 31))).toInt8.toInt32) (((x >>> (((nI 16)) &&& 31))).toInt8.toInt32) (((x >>> (((nI 8)) &&& 31))).toInt8.toInt32) x.toInt8.toInt32 (((y >>> (((nI 24)) &&& 31))).toInt8.toInt32) (((y >>> (((nI 16)) &&& 31))).toInt8.toInt32) (((y >>> (((nI 8)) &&& 31))).toInt8.toInt32) y.toInt8.toInt32) (va_cwS 8 hts (lw_S q230 q231 q7 q232) rfl rfl rfl (by decide +kernel) ⟨Nat.le_of_ble_eq_true rfl, Nat.le_of_ble_eq_true rfl⟩) ⟨fun a U g mk q => by obtain ⟨q0, q1, qP, qK, qD⟩ := q; exact ⟨q0, q1, qP, va_K.moved (u := U) (U := U.calling g mk a) (Vm.Alike.refl U.vm) qK, qD⟩, fun U hU hW => ⟨rfl, by rw [hU], by rw [hU]; exact hPc, va_K.moved hW.alike hKc, hDc.weaken (fun _ _ _ _ => trivial)⟩⟩ rfl rfl hl.1 rfl (lv_room (Nat.le_of_ble_eq_true rfl)) dX0_ofBytes_34 ⟨Nat.le_of_ble_eq_true rfl, Nat.le_of_ble_eq_true rfl⟩) hS (fun q _ h => hFc q h) hFc (fun r_41 u t H1 locs ht hvm hw hB hz1 hk1 hS => ?_)
  obtain ⟨hP1, hK1, hD1⟩ := hB
  rw [ht] at hP1
  have hK1 := va_K.moved hvm.symm hK1
  obtain ⟨hP, hD⟩ := va_join (wr := [ld_O h0 0 a0, ld_A a0 d0 f]) (w1 := []) hP hD [] [0, 1] rfl rfl (by decide) (by decide) hk1 hFc hP1 hD1
  have hK := (hK.sub (tys' := [(d0, .long)]) [0] rfl).app hK1
  generalize H1 = H at hP hS ⊢
  have hP : va_P (dC, dI) ld_Cl [ld_O h0 0 a0, ld_A a0 d0 f] H := hP
  have hD : va_D A [ld_O h0 0 a0, ld_A a0 d0 f] := hD
  have hK : va_K (dC, dI) ld_Cl [(d0, .long)] s := hK
  have hP9 := hP.sub (ws' := [ld_O h0 0 a0, ld_A a0 d0 f]) [0, 1] rfl
  have hD9 := hD.sub (ws' := [ld_O h0 0 a0, ld_A a0 d0 f]) [0, 1] (by decide) rfl
  have hK9 := hK.sub (tys' := [(d0, .long)]) [0] rfl
  exact W.lret (v := r_41) hx hb hr (fun t ht hW => ⟨⟨r_41, (), rfl, (Eq.trans hw (ld_fb_wd x y)), by rw [ht]; exact hP9, va_K.moved hW.alike hK9, hD9⟩, hS.F ht⟩) hS.2.2 dX0_ofBytes_37
set_option maxHeartbeats 4000000 in
set_option maxRecDepth 100000 in
/-- LongRowDesk.letter -/
theorem metX0_letter (l : Launch) (dC : Nat → ClassId) (dI : Nat → Nat → Nat) (sz : Nat) (h0 a0 : Nat) (d0 : ClassId) (f : Nat → Int64) (i y : Int32) : Met l yX0_letter (ws_ yX0_letter cX0_letter 3 (some .int)) ({ frames := 1, cells := 1, slots := 8, locals := 32 } : Room) (va_Pc [.ref h0, .int i, .int y] (fun U => ld_I dC dI sz [ld_O h0 0 a0, ld_A a0 d0 f] [(d0, .long)] U)) (va_Qi (fun (r : Int32) (_ : Unit) => r = nI (ld_b8 (f (ld_pl i)) (y.toBitVec.toNat % 8))) (ld_B dC dI (va_A [ld_O h0 0 a0, ld_A a0 d0 f] sz) (fun (_ : Unit) => [ld_O h0 0 a0, ld_A a0 d0 f]) [(d0, .long)]) (va_A [ld_O h0 0 a0, ld_A a0 d0 f] sz)) 1 8 (va_A [ld_O h0 0 a0, ld_A a0 d0 f] sz) := by
  refine Met.ofW (cc := cX0_letter) (maxL := 3) (ret := (some .int)) (by decide) rfl ?_
  intro p e s m args below meth c s₁ B hml hv
  obtain ⟨rfl, hsz, hP, hK, hD0⟩ := hv
  have hx := B.exec
  have hb := B.bytes
  have hr := B.returns
  have hts := atoms_spec (ws := (ws_ yX0_letter cX0_letter 3 (some .int))) B.pre
  have hts : ∀ w ∈ lw_all, w.before _ s = true := fun w h => hts w (List.mem_cons_of_mem _ h)
  have hown : s.vm.findClass RX0 = some m.cls := findClass_of_methodNamed B.named
  have hlocks := B.notSynchronized
  subst hsz
  have hD := hD0.self (sz := s.heap.size)
  generalize hAe : va_A [ld_O h0 0 a0, ld_A a0 d0 f] s.heap.size = A at hD ⊢
  have hA : ∀ q : Nat, s.heap.size ≤ q → A q := fun q h => by rw [← hAe]; exact Or.inr h
  have hS : va_S A s.heap s.heap [] := va_S.rf
  have hP : va_P (dC, dI) ld_Cl [ld_O h0 0 a0, ld_A a0 d0 f] s.heap := hP
  have hl := lv_entry ([.ref h0, .int i, .int y]) (n := 3) (Nat.le_of_ble_eq_true rfl)
  rw [lg_entry_eq]
  generalize (lg_sl ([.ref h0, .int i, .int y]) ++ List.replicate (3 - (lg_sl ([.ref h0, .int i, .int y])).length) Slot.unset).toArray = ls at hl ⊢
  have hl : lv_has ls 3 [(0, .ref h0), (1, .int i), (2, .int y)] := hl
  refine lv_aload_n hx hb dX0_letter_0 rfl (lv_at hl 0 rfl) ?_
  refine va_get (D := (dC, dI)) (ci := 0) (v := .ref a0) (C := RX0) (T := TX0) (N := 1) hx hb hts in_X0 hown hK hP 0 rfl rfl 0 (by decide) (hts _ q24) (fun _ h9 => h9) rfl dX0_letter_1 ?_
  refine lv_iload_n hx hb dX0_letter_4 rfl (lv_at hl 1 rfl) ?_
  refine lv_ldc hx hb hown (hts _ q33) dX0_letter_5 ?_
  refine lv_iand hx hb dX0_letter_7 ?_
  refine lv_bipush (v := nI 12) hx hb dX0_letter_8 (by decide +kernel) ?_
  refine lv_irem hx hb dX0_letter_10 (ld_12ne) ?_
  refine ld_topi (y := nI (ld_pl i)) (ld_pl_eq i) ?_
  refine ld_lald (n := 12) (f := f) (i := (ld_pl i)) hx hb hK hP 1 0 rfl rfl (ld_pl_lt i) (by decide) dX0_letter_11 ?_
  have hPc := hP.sub (ws' := []) [] rfl
  have hDc := hD.sub (ws' := []) [] (by decide) rfl
  have hKc := hK.sub (tys' := []) [] rfl
  have hFc := va_free (wc := []) hD hS hA [] rfl
  refine va_callr (va_runS (As := [.long (f (ld_pl i))]) (rest := []) ⟨hx, hb, hml, hown, hts⟩ (metX2_toByteArray l dC dI s.heap.size (f (ld_pl i))) (va_cwS 1 hts (lw_S q238 q239 q7 q240) rfl rfl rfl (by decide +kernel) ⟨Nat.le_of_ble_eq_true rfl, Nat.le_of_ble_eq_true rfl⟩) ⟨fun a U g mk q => by obtain ⟨q0, q1, qP, qK, qD⟩ := q; exact ⟨q0, q1, qP, va_K.moved (u := U) (U := U.calling g mk a) (Vm.Alike.refl U.vm) qK, qD⟩, fun U hU hW => ⟨rfl, by rw [hU], by rw [hU]; exact hPc, va_K.moved hW.alike hKc, hDc.weaken (fun _ _ _ _ => trivial)⟩⟩ rfl rfl hl.1 rfl (lv_room (Nat.le_of_ble_eq_true rfl)) dX0_letter_12 ⟨Nat.le_of_ble_eq_true rfl, Nat.le_of_ble_eq_true rfl⟩) hS (fun q _ h => hFc q h) hFc (fun g qb t H1 locs ht hvm hw hB hz1 hk1 hS => ?_)
  obtain ⟨db, hB⟩ := hB
  obtain ⟨hP1, hK1, hD1⟩ := hB
  rw [ht] at hP1
  have hK1 := va_K.moved hvm.symm hK1
  obtain ⟨hP, hD⟩ := va_join (wr := [ld_O h0 0 a0, ld_A a0 d0 f]) (w1 := [(qb, .inl (db, 8, .inl g))]) hP hD [] [0, 1] rfl rfl (by decide) (by decide) hk1 hFc hP1 hD1
  have hK := (hK.sub (tys' := [(d0, .long)]) [0] rfl).app hK1
  generalize H1 = H at hP hS ⊢
  have hP : va_P (dC, dI) ld_Cl [ld_O h0 0 a0, ld_A a0 d0 f, (qb, .inl (db, 8, .inl g))] H := hP
  have hD : va_D A [ld_O h0 0 a0, ld_A a0 d0 f, (qb, .inl (db, 8, .inl g))] := hD
  have hK : va_K (dC, dI) ld_Cl [(d0, .long), (db, .byte)] s := hK
  refine lv_iload_n hx hb dX0_letter_15 rfl (lv_at hl 2 rfl) ?_
  refine lv_bipush (v := nI 7) hx hb dX0_letter_16 (by decide +kernel) ?_
  refine lv_iand hx hb dX0_letter_18 ?_
  refine ld_topi (y := nI (y.toBitVec.toNat % 8)) (ld_and7 y) ?_
  refine ld_bald (n := 8) (f := g) (i := (y.toBitVec.toNat % 8)) hx hb hK hP 2 1 rfl rfl (Nat.mod_lt _ (by decide)) (by decide) dX0_letter_19 ?_
  refine lv_sipush (v := nI 255) hx hb dX0_letter_20 (by decide +kernel) ?_
  refine lv_iand hx hb dX0_letter_23 ?_
  have hP9 := hP.sub (ws' := [ld_O h0 0 a0, ld_A a0 d0 f]) [0, 1] rfl
  have hD9 := hD.sub (ws' := [ld_O h0 0 a0, ld_A a0 d0 f]) [0, 1] (by decide) rfl
  have hK9 := hK.sub (tys' := [(d0, .long)]) [0] rfl
  exact W.iret (v := (((g ((y.toBitVec.toNat % 8)))) &&& ((nI 255)))) hx hb hr (fun t ht hW => ⟨⟨(((g ((y.toBitVec.toNat % 8)))) &&& ((nI 255))), (), rfl, (hw _ (Nat.mod_lt _ (by decide))), by rw [ht]; exact hP9, va_K.moved hW.alike hK9, hD9⟩, hS.F ht⟩) hS.2.2 dX0_letter_24
set_option maxHeartbeats 4000000 in
set_option maxRecDepth 100000 in
/-- LongRowDesk.within -/
theorem metX0_within (l : Launch) (dC : Nat → ClassId) (dI : Nat → Nat → Nat) (sz : Nat) (h0 a0 : Nat) (d0 : ClassId) (f : Nat → Int64) (qs : Nat) (i j k : Int32) : Met l yX0_within (ws_ yX0_within cX0_within 8 (some .long)) ({ frames := 2, cells := 0, slots := 0, locals := 72 } : Room) (va_Pc [.ref h0, .int i, .int j, .int k] (fun U => ld_I dC dI sz [ld_O h0 0 a0, ld_A a0 d0 f] [(d0, .long)] U ∧ vk_R "Longs" 16 ld_tx qs U)) (va_Ql (fun (r : Int64) (_ : Unit) => r = ld_wi (f (ld_pl i)) (f (ld_pl j)) (f (ld_pl k))) (ld_B dC dI (va_A [ld_O h0 0 a0, ld_A a0 d0 f] sz) (fun (_ : Unit) => [ld_O h0 0 a0, ld_A a0 d0 f]) [(d0, .long)]) (va_A [ld_O h0 0 a0, ld_A a0 d0 f] sz)) 0 0 (va_A [ld_O h0 0 a0, ld_A a0 d0 f] sz) := by
  refine Met.ofW (cc := cX0_within) (maxL := 8) (ret := (some .long)) (by decide) rfl ?_
  intro p e s m args below meth c s₁ B hml hv
  obtain ⟨rfl, ⟨hsz, hP, hK, hD0⟩, hZ⟩ := hv
  have hx := B.exec
  have hb := B.bytes
  have hr := B.returns
  have hts := atoms_spec (ws := (ws_ yX0_within cX0_within 8 (some .long))) B.pre
  have hts : ∀ w ∈ lw_all, w.before _ s = true := fun w h => hts w (List.mem_cons_of_mem _ h)
  have hown : s.vm.findClass RX0 = some m.cls := findClass_of_methodNamed B.named
  have hlocks := B.notSynchronized
  subst hsz
  have hD := hD0.self (sz := s.heap.size)
  generalize hAe : va_A [ld_O h0 0 a0, ld_A a0 d0 f] s.heap.size = A at hD ⊢
  have hA : ∀ q : Nat, s.heap.size ≤ q → A q := fun q h => by rw [← hAe]; exact Or.inr h
  have hS : va_S A s.heap s.heap [] := va_S.rf
  have hP : va_P (dC, dI) ld_Cl [ld_O h0 0 a0, ld_A a0 d0 f] s.heap := hP
  have hl := lv_entry ([.ref h0, .int i, .int j, .int k]) (n := 8) (Nat.le_of_ble_eq_true rfl)
  rw [lg_entry_eq]
  generalize (lg_sl ([.ref h0, .int i, .int j, .int k]) ++ List.replicate (8 - (lg_sl ([.ref h0, .int i, .int j, .int k])).length) Slot.unset).toArray = ls at hl ⊢
  have hl : lv_has ls 8 [(0, .ref h0), (1, .int i), (2, .int j), (3, .int k)] := hl
  refine lv_aload_n hx hb dX0_within_0 rfl (lv_at hl 0 rfl) ?_
  refine va_get (D := (dC, dI)) (ci := 0) (v := .ref a0) (C := RX0) (T := TX0) (N := 1) hx hb hts in_X0 hown hK hP 0 rfl rfl 0 (by decide) (hts _ q24) (fun _ h9 => h9) rfl dX0_within_1 ?_
  refine lv_iload_n hx hb dX0_within_4 rfl (lv_at hl 2 rfl) ?_
  refine lv_ldc hx hb hown (hts _ q33) dX0_within_5 ?_
  refine lv_iand hx hb dX0_within_7 ?_
  refine lv_bipush (v := nI 12) hx hb dX0_within_8 (by decide +kernel) ?_
  refine lv_irem hx hb dX0_within_10 (ld_12ne) ?_
  refine ld_topi (y := nI (ld_pl j)) (ld_pl_eq j) ?_
  refine ld_lald (n := 12) (f := f) (i := (ld_pl j)) hx hb hK hP 1 0 rfl rfl (ld_pl_lt j) (by decide) dX0_within_11 ?_
  refine lv_lstore (lv' := [(4, .long (f ((ld_pl j)))), (0, .ref h0), (1, .int i), (2, .int j), (3, .int k)]) hx hb dX0_within_12 hl (by decide) rfl (fun ls hl => ?_)
  refine lv_aload_n hx hb dX0_within_14 rfl (lv_at hl 1 rfl) ?_
  refine va_get (D := (dC, dI)) (ci := 0) (v := .ref a0) (C := RX0) (T := TX0) (N := 1) hx hb hts in_X0 hown hK hP 0 rfl rfl 0 (by decide) (hts _ q24) (fun _ h9 => h9) rfl dX0_within_15 ?_
  refine lv_iload_n hx hb dX0_within_18 rfl (lv_at hl 4 rfl) ?_
  refine lv_ldc hx hb hown (hts _ q33) dX0_within_19 ?_
  refine lv_iand hx hb dX0_within_21 ?_
  refine lv_bipush (v := nI 12) hx hb dX0_within_22 (by decide +kernel) ?_
  refine lv_irem hx hb dX0_within_24 (ld_12ne) ?_
  refine ld_topi (y := nI (ld_pl k)) (ld_pl_eq k) ?_
  refine ld_lald (n := 12) (f := f) (i := (ld_pl k)) hx hb hK hP 1 0 rfl rfl (ld_pl_lt k) (by decide) dX0_within_25 ?_
  refine lv_lstore (lv' := [(6, .long (f ((ld_pl k)))), (4, .long (f ((ld_pl j)))), (0, .ref h0), (1, .int i), (2, .int j), (3, .int k)]) hx hb dX0_within_26 hl (by decide) rfl (fun ls hl => ?_)
  refine lv_aload_n hx hb dX0_within_28 rfl (lv_at hl 2 rfl) ?_
  refine va_get (D := (dC, dI)) (ci := 0) (v := .ref a0) (C := RX0) (T := TX0) (N := 1) hx hb hts in_X0 hown hK hP 0 rfl rfl 0 (by decide) (hts _ q24) (fun _ h9 => h9) rfl dX0_within_29 ?_
  refine lv_iload_n hx hb dX0_within_32 rfl (lv_at hl 3 rfl) ?_
  refine lv_ldc hx hb hown (hts _ q33) dX0_within_33 ?_
  refine lv_iand hx hb dX0_within_35 ?_
  refine lv_bipush (v := nI 12) hx hb dX0_within_36 (by decide +kernel) ?_
  refine lv_irem hx hb dX0_within_38 (ld_12ne) ?_
  refine ld_topi (y := nI (ld_pl i)) (ld_pl_eq i) ?_
  refine ld_lald (n := 12) (f := f) (i := (ld_pl i)) hx hb hK hP 1 0 rfl rfl (ld_pl_lt i) (by decide) dX0_within_39 ?_
  refine lv_lload hx hb dX0_within_40 (lv_at hl 1 rfl) ?_
  refine lv_lload hx hb dX0_within_42 (lv_at hl 0 rfl) ?_
  refine W.lcmp hx hb dX0_within_44 ?_
  refine lv_if_ge (tgt := 53) hx hb dX0_within_45 (by decide) (fun c_42 => ?_) (fun c_42 => ?_)
  · have h5 : ¬ f (ld_pl j) < f (ld_pl k) := Int64.not_lt.mpr ((lg_cmp_ge _ _).mp c_42)
    refine lv_lload hx hb dX0_within_53 (lv_at hl 0 rfl) ?_
    refine ld_topl (y := if f (ld_pl j) < f (ld_pl k) then f (ld_pl j) else f (ld_pl k)) (if_neg h5).symm ?_
    refine lv_lload hx hb dX0_within_55 (lv_at hl 1 rfl) ?_
    refine lv_lload hx hb dX0_within_57 (lv_at hl 0 rfl) ?_
    refine W.lcmp hx hb dX0_within_59 ?_
    refine lv_if_ge (tgt := 68) hx hb dX0_within_60 (by decide) (fun c_43 => ?_) (fun c_43 => ?_)
    · refine lv_lload hx hb dX0_within_68 (lv_at hl 1 rfl) ?_
      refine ld_topl (y := if f (ld_pl j) < f (ld_pl k) then f (ld_pl k) else f (ld_pl j)) (if_neg h5).symm ?_
      have hPc := hP.sub (ws' := []) [] rfl
      have hDc := hD.sub (ws' := []) [] (by decide) rfl
      have hKc := hK.sub (tys' := []) [] rfl
      have hFc := va_free (wc := []) hD hS hA [] rfl
      refine va_calll (va_runS (As := [.long (f (ld_pl i)), .long (if f (ld_pl j) < f (ld_pl k) then f (ld_pl j) else f (ld_pl k)), .long (if f (ld_pl j) < f (ld_pl k) then f (ld_pl k) else f (ld_pl j))]) (rest := []) ⟨hx, hb, hml, hown, hts⟩ (metX2_constrainToRange l dC dI s.heap.size qs (f (ld_pl i)) (if f (ld_pl j) < f (ld_pl k) then f (ld_pl j) else f (ld_pl k)) (if f (ld_pl j) < f (ld_pl k) then f (ld_pl k) else f (ld_pl j)) (ld_wi_le _ _)) (va_cwS 3 hts (lw_S q245 q246 q7 q247) rfl rfl rfl (by decide +kernel) ⟨Nat.le_of_ble_eq_true rfl, Nat.le_of_ble_eq_true rfl⟩) ⟨fun a U g mk q => by obtain ⟨q0, ⟨q1, qP, qK, qD⟩, qZ⟩ := q; exact ⟨q0, ⟨q1, qP, va_K.moved (u := U) (U := U.calling g mk a) (Vm.Alike.refl U.vm) qK, qD⟩, vk_R.same (u := U) (U := U.calling g mk a) rfl qZ⟩, fun U hU hW => ⟨rfl, ⟨by rw [hU], by rw [hU]; exact hPc, va_K.moved hW.alike hKc, hDc.weaken (fun _ _ _ _ => trivial)⟩, vk_R.warm hW hZ⟩⟩ rfl rfl hl.1 rfl (lv_room (Nat.le_of_ble_eq_true rfl)) dX0_within_70 ⟨Nat.le_of_ble_eq_true rfl, Nat.le_of_ble_eq_true rfl⟩) hS (fun q _ h => hFc q h) hFc (fun r_44 u t H1 locs ht hvm hw hB hz1 hk1 hS => ?_)
      obtain ⟨hP1, hK1, hD1⟩ := hB
      rw [ht] at hP1
      have hK1 := va_K.moved hvm.symm hK1
      obtain ⟨hP, hD⟩ := va_join (wr := [ld_O h0 0 a0, ld_A a0 d0 f]) (w1 := []) hP hD [] [0, 1] rfl rfl (by decide) (by decide) hk1 hFc hP1 hD1
      have hK := (hK.sub (tys' := [(d0, .long)]) [0] rfl).app hK1
      generalize H1 = H at hP hS ⊢
      have hP : va_P (dC, dI) ld_Cl [ld_O h0 0 a0, ld_A a0 d0 f] H := hP
      have hD : va_D A [ld_O h0 0 a0, ld_A a0 d0 f] := hD
      have hK : va_K (dC, dI) ld_Cl [(d0, .long)] s := hK
      have hP9 := hP.sub (ws' := [ld_O h0 0 a0, ld_A a0 d0 f]) [0, 1] rfl
      have hD9 := hD.sub (ws' := [ld_O h0 0 a0, ld_A a0 d0 f]) [0, 1] (by decide) rfl
      have hK9 := hK.sub (tys' := [(d0, .long)]) [0] rfl
      exact W.lret (v := r_44) hx hb hr (fun t ht hW => ⟨⟨r_44, (), rfl, (Eq.trans hw ld_wi_x), by rw [ht]; exact hP9, va_K.moved hW.alike hK9, hD9⟩, hS.F ht⟩) hS.2.2 dX0_within_73
    · exact absurd c_42 c_43
  · have h5 : f (ld_pl j) < f (ld_pl k) := Int64.not_le.mp (fun z => c_42 ((lg_cmp_ge _ _).mpr z))
    refine lv_lload hx hb dX0_within_48 (lv_at hl 1 rfl) ?_
    refine lv_goto (tgt := 55) hx hb dX0_within_50 (by decide) ?_
    refine ld_topl (y := if f (ld_pl j) < f (ld_pl k) then f (ld_pl j) else f (ld_pl k)) (if_pos h5).symm ?_
    refine lv_lload hx hb dX0_within_55 (lv_at hl 1 rfl) ?_
    refine lv_lload hx hb dX0_within_57 (lv_at hl 0 rfl) ?_
    refine W.lcmp hx hb dX0_within_59 ?_
    refine lv_if_ge (tgt := 68) hx hb dX0_within_60 (by decide) (fun c_45 => ?_) (fun c_45 => ?_)
    · exact absurd c_45 c_42
    · refine lv_lload hx hb dX0_within_63 (lv_at hl 0 rfl) ?_
      refine lv_goto (tgt := 70) hx hb dX0_within_65 (by decide) ?_
      refine ld_topl (y := if f (ld_pl j) < f (ld_pl k) then f (ld_pl k) else f (ld_pl j)) (if_pos h5).symm ?_
      have hPc := hP.sub (ws' := []) [] rfl
      have hDc := hD.sub (ws' := []) [] (by decide) rfl
      have hKc := hK.sub (tys' := []) [] rfl
      have hFc := va_free (wc := []) hD hS hA [] rfl
      refine va_calll (va_runS (As := [.long (f (ld_pl i)), .long (if f (ld_pl j) < f (ld_pl k) then f (ld_pl j) else f (ld_pl k)), .long (if f (ld_pl j) < f (ld_pl k) then f (ld_pl k) else f (ld_pl j))]) (rest := []) ⟨hx, hb, hml, hown, hts⟩ (metX2_constrainToRange l dC dI s.heap.size qs (f (ld_pl i)) (if f (ld_pl j) < f (ld_pl k) then f (ld_pl j) else f (ld_pl k)) (if f (ld_pl j) < f (ld_pl k) then f (ld_pl k) else f (ld_pl j)) (ld_wi_le _ _)) (va_cwS 3 hts (lw_S q245 q246 q7 q247) rfl rfl rfl (by decide +kernel) ⟨Nat.le_of_ble_eq_true rfl, Nat.le_of_ble_eq_true rfl⟩) ⟨fun a U g mk q => by obtain ⟨q0, ⟨q1, qP, qK, qD⟩, qZ⟩ := q; exact ⟨q0, ⟨q1, qP, va_K.moved (u := U) (U := U.calling g mk a) (Vm.Alike.refl U.vm) qK, qD⟩, vk_R.same (u := U) (U := U.calling g mk a) rfl qZ⟩, fun U hU hW => ⟨rfl, ⟨by rw [hU], by rw [hU]; exact hPc, va_K.moved hW.alike hKc, hDc.weaken (fun _ _ _ _ => trivial)⟩, vk_R.warm hW hZ⟩⟩ rfl rfl hl.1 rfl (lv_room (Nat.le_of_ble_eq_true rfl)) dX0_within_70 ⟨Nat.le_of_ble_eq_true rfl, Nat.le_of_ble_eq_true rfl⟩) hS (fun q _ h => hFc q h) hFc (fun r_46 u t H1 locs ht hvm hw hB hz1 hk1 hS => ?_)
      obtain ⟨hP1, hK1, hD1⟩ := hB
      rw [ht] at hP1
      have hK1 := va_K.moved hvm.symm hK1
      obtain ⟨hP, hD⟩ := va_join (wr := [ld_O h0 0 a0, ld_A a0 d0 f]) (w1 := []) hP hD [] [0, 1] rfl rfl (by decide) (by decide) hk1 hFc hP1 hD1
      have hK := (hK.sub (tys' := [(d0, .long)]) [0] rfl).app hK1
      generalize H1 = H at hP hS ⊢
      have hP : va_P (dC, dI) ld_Cl [ld_O h0 0 a0, ld_A a0 d0 f] H := hP
      have hD : va_D A [ld_O h0 0 a0, ld_A a0 d0 f] := hD
      have hK : va_K (dC, dI) ld_Cl [(d0, .long)] s := hK
      have hP9 := hP.sub (ws' := [ld_O h0 0 a0, ld_A a0 d0 f]) [0, 1] rfl
      have hD9 := hD.sub (ws' := [ld_O h0 0 a0, ld_A a0 d0 f]) [0, 1] (by decide) rfl
      have hK9 := hK.sub (tys' := [(d0, .long)]) [0] rfl
      exact W.lret (v := r_46) hx hb hr (fun t ht hW => ⟨⟨r_46, (), rfl, (Eq.trans hw ld_wi_x), by rw [ht]; exact hP9, va_K.moved hW.alike hK9, hD9⟩, hS.F ht⟩) hS.2.2 dX0_within_73
end
section
/-! LongRowDeskModel: the constructor, place, wide, set, get -/
set_option maxRecDepth 100000
set_option maxHeartbeats 4000000 in
set_option maxRecDepth 100000 in
/-- LongRowDeskModel(): a row of twelve noughts -/
theorem metX1_init (l : Launch) (dC : Nat → ClassId) (dI : Nat → Nat → Nat) (sz : Nat) (h0 : Nat) : Met l yX1_init (ws_ yX1_init cX1_init 1 none) ({ frames := 1, cells := 1, slots := 12, locals := 12 } : Room) (va_Pc [.ref h0] (fun U => ld_I dC dI sz [(h0, .inr (1, [.null]))] [] U)) (va_Qv (fun (_ : Unit) => True) (fun (u : Unit) (t : State) => ∃ (a0 : Nat) (d0 : ClassId), ld_B dC dI (va_A [(h0, .inr (1, [.null]))] sz) (fun (_ : Unit) => [ld_O h0 1 a0, ld_A a0 d0 (fun _ => 0)]) [(d0, .long)] u t) (va_A [(h0, .inr (1, [.null]))] sz)) 1 12 (va_A [(h0, .inr (1, [.null]))] sz) := by
  refine Met.ofW (cc := cX1_init) (maxL := 1) (ret := none) (by decide) rfl ?_
  intro p e s m args below meth c s₁ B hml hv
  obtain ⟨rfl, hsz, hP, hK, hD0⟩ := hv
  have hx := B.exec
  have hb := B.bytes
  have hr := B.returns
  have hts := atoms_spec (ws := (ws_ yX1_init cX1_init 1 none)) B.pre
  have hts : ∀ w ∈ lw_all, w.before _ s = true := fun w h => hts w (List.mem_cons_of_mem _ h)
  have hown : s.vm.findClass RX1 = some m.cls := findClass_of_methodNamed B.named
  have hlocks := B.notSynchronized
  have hin : meth.name = "<init>" := (name_of_methodNamed B.named B.method).1
  subst hsz
  have hD := hD0.self (sz := s.heap.size)
  generalize hAe : va_A [(h0, .inr (1, [.null]))] s.heap.size = A at hD ⊢
  have hA : ∀ q : Nat, s.heap.size ≤ q → A q := fun q h => by rw [← hAe]; exact Or.inr h
  have hS : va_S A s.heap s.heap [] := va_S.rf
  have hP : va_P (dC, dI) ld_Cl [(h0, .inr (1, [.null]))] s.heap := hP
  have hl := lv_entry ([.ref h0]) (n := 1) (Nat.le_of_ble_eq_true rfl)
  rw [lg_entry_eq]
  generalize (lg_sl ([.ref h0]) ++ List.replicate (1 - (lg_sl ([.ref h0])).length) Slot.unset).toArray = ls at hl ⊢
  have hl : lv_has ls 1 [(0, .ref h0)] := hl
  refine lv_aload_n hx hb dX1_init_0 rfl (lv_at hl 0 rfl) ?_
  refine W.objInit hx hb hown (hts _ q267) (hts _ q22) (hts _ q23) rfl (by rw [hml]; exact hl.1) rfl dX1_init_1 (Nat.le_of_ble_eq_true rfl) (Nat.le_of_ble_eq_true rfl) ?_
  refine W.eq (g2 := F0 m 4 ls []) rfl ?_
  refine lv_aload_n hx hb dX1_init_4 rfl (lv_at hl 0 rfl) ?_
  refine lv_bipush (v := nI 12) hx hb dX1_init_5 (by decide +kernel) ?_
  refine va_newa (atype := .long) (ty := .long) (N' := 12) (a0 := (12, .inr (.inl (fun _ => 0)))) hx hb (hts _ q28) rfl hK hP hD hS hA (fun _ => rfl) (by decide +kernel) (by decide +kernel) (Nat.le_of_ble_eq_true rfl) (Nat.le_of_ble_eq_true rfl) (Nat.le_of_ble_eq_true rfl) dX1_init_7 (fun a0 d0 H hK hP hD hS => ?_)
  have hP : va_P (dC, dI) ld_Cl [(h0, .inr (1, [.null])), ld_A a0 d0 (fun _ => 0)] H := hP
  have hD : va_D A [(h0, .inr (1, [.null])), ld_A a0 d0 (fun _ => 0)] := hD
  have hK : va_K (dC, dI) ld_Cl [(d0, .long)] s := hK
  refine va_putF (D := (dC, dI)) (ci := 1) (v := .ref a0) (ty := .array .long) (C := RX1) (T := TX1) (N := 1) hx hb hts in_X1 tyX1 tyX1_ok nmX1 hown hK hP hD hS 0 rfl rfl 0 (by decide) (hts _ q268) (fun _ h9 => h9) rfl hin rfl (by decide +kernel) rfl rfl (Nat.le_of_ble_eq_true rfl) dX1_init_9 (fun H locs hP hD hS => ?_)
  have hP : va_P (dC, dI) ld_Cl [ld_O h0 1 a0, ld_A a0 d0 (fun _ => 0)] H := hP
  have hD : va_D A [ld_O h0 1 a0, ld_A a0 d0 (fun _ => 0)] := hD
  have hP9 := hP.sub (ws' := [ld_O h0 1 a0, ld_A a0 d0 (fun _ => 0)]) [0, 1] rfl
  have hD9 := hD.sub (ws' := [ld_O h0 1 a0, ld_A a0 d0 (fun _ => 0)]) [0, 1] (by decide) rfl
  have hK9 := hK.sub (tys' := [(d0, .long)]) [0] rfl
  exact W.vret hx hb hr (fun t ht hW => ⟨⟨(), rfl, trivial, ⟨a0, d0, by rw [ht]; exact hP9, va_K.moved hW.alike hK9, hD9⟩⟩, hS.F ht⟩) hS.2.2 dX1_init_12
set_option maxHeartbeats 4000000 in
set_option maxRecDepth 100000 in
/-- LongRowDeskModel.place -/
theorem metX1_place (l : Launch) (dC : Nat → ClassId) (dI : Nat → Nat → Nat) (sz : Nat) (i : Int32) : Met l yX1_place (ws_ yX1_place cX1_place 1 (some .int)) ({ frames := 0, cells := 0, slots := 0, locals := 0 } : Room) (va_Pc [.int i] (fun U => ld_I dC dI sz [] [] U)) (va_Qi (fun (r : Int32) (_ : Unit) => r = nI (ld_pl i)) (ld_B dC dI (va_A [] sz) (fun (_ : Unit) => []) []) (va_A [] sz)) 0 0 (va_A [] sz) := by
  refine Met.ofW (cc := cX1_place) (maxL := 1) (ret := (some .int)) (by decide) rfl ?_
  intro p e s m args below meth c s₁ B hml hv
  obtain ⟨rfl, hsz, hP, hK, hD0⟩ := hv
  have hx := B.exec
  have hb := B.bytes
  have hr := B.returns
  have hts := atoms_spec (ws := (ws_ yX1_place cX1_place 1 (some .int))) B.pre
  have hts : ∀ w ∈ lw_all, w.before _ s = true := fun w h => hts w (List.mem_cons_of_mem _ h)
  have hown : s.vm.findClass RX1 = some m.cls := findClass_of_methodNamed B.named
  have hlocks := B.notSynchronized
  subst hsz
  have hD := hD0.self (sz := s.heap.size)
  generalize hAe : va_A [] s.heap.size = A at hD ⊢
  have hA : ∀ q : Nat, s.heap.size ≤ q → A q := fun q h => by rw [← hAe]; exact Or.inr h
  have hS : va_S A s.heap s.heap [] := va_S.rf
  have hP : va_P (dC, dI) ld_Cl [] s.heap := hP
  have hl := lv_entry ([.int i]) (n := 1) (Nat.le_of_ble_eq_true rfl)
  rw [lg_entry_eq]
  generalize (lg_sl ([.int i]) ++ List.replicate (1 - (lg_sl ([.int i])).length) Slot.unset).toArray = ls at hl ⊢
  have hl : lv_has ls 1 [(0, .int i)] := hl
  refine lv_iload_n hx hb dX1_place_0 rfl (lv_at hl 0 rfl) ?_
  refine lv_ldc hx hb hown (hts _ q279) dX1_place_1 ?_
  refine lv_iand hx hb dX1_place_3 ?_
  refine lv_bipush (v := nI 12) hx hb dX1_place_4 (by decide +kernel) ?_
  refine lv_irem hx hb dX1_place_6 (ld_12ne) ?_
  refine ld_topi (y := nI (ld_pl i)) (ld_pl_eq i) ?_
  have hP9 := hP.sub (ws' := []) [] rfl
  have hD9 := hD.sub (ws' := []) [] (by decide) rfl
  have hK9 := hK.sub (tys' := []) [] rfl
  exact W.iret (v := (nI (ld_pl i))) hx hb hr (fun t ht hW => ⟨⟨(nI (ld_pl i)), (), rfl, rfl, by rw [ht]; exact hP9, va_K.moved hW.alike hK9, hD9⟩, hS.F ht⟩) hS.2.2 dX1_place_7
set_option maxHeartbeats 4000000 in
set_option maxRecDepth 100000 in
/-- LongRowDeskModel.wide -/
theorem metX1_wide (l : Launch) (dC : Nat → ClassId) (dI : Nat → Nat → Nat) (sz : Nat) (x y : Int32) : Met l yX1_wide (ws_ yX1_wide cX1_wide 5 (some .long)) ({ frames := 0, cells := 0, slots := 0, locals := 0 } : Room) (va_Pc [.int x, .int y] (fun U => ld_I dC dI sz [] [] U)) (va_Ql (fun (r : Int64) (_ : Unit) => r = ld_wd x y) (ld_B dC dI (va_A [] sz) (fun (_ : Unit) => []) []) (va_A [] sz)) 0 0 (va_A [] sz) := by
  refine Met.ofW (cc := cX1_wide) (maxL := 5) (ret := (some .long)) (by decide) rfl ?_
  intro p e s m args below meth c s₁ B hml hv
  obtain ⟨rfl, hsz, hP, hK, hD0⟩ := hv
  have hx := B.exec
  have hb := B.bytes
  have hr := B.returns
  have hts := atoms_spec (ws := (ws_ yX1_wide cX1_wide 5 (some .long))) B.pre
  have hts : ∀ w ∈ lw_all, w.before _ s = true := fun w h => hts w (List.mem_cons_of_mem _ h)
  have hown : s.vm.findClass RX1 = some m.cls := findClass_of_methodNamed B.named
  have hlocks := B.notSynchronized
  subst hsz
  have hD := hD0.self (sz := s.heap.size)
  generalize hAe : va_A [] s.heap.size = A at hD ⊢
  have hA : ∀ q : Nat, s.heap.size ≤ q → A q := fun q h => by rw [← hAe]; exact Or.inr h
  have hS : va_S A s.heap s.heap [] := va_S.rf
  have hP : va_P (dC, dI) ld_Cl [] s.heap := hP
  have hl := lv_entry ([.int x, .int y]) (n := 5) (Nat.le_of_ble_eq_true rfl)
  rw [lg_entry_eq]
  generalize (lg_sl ([.int x, .int y]) ++ List.replicate (5 - (lg_sl ([.int x, .int y])).length) Slot.unset).toArray = ls at hl ⊢
  have hl : lv_has ls 5 [(0, .int x), (1, .int y)] := hl
  obtain ⟨c0, e0, -⟩ := ld_se x
  refine lv_iload_n hx hb dX1_wide_0 rfl (lv_at hl 0 rfl) ?_
  refine lv_i2l hx hb dX1_wide_1 rfl ?_
  refine ld_topl (y := lN (ld_wn (x.toBitVec.toNat + c0 * 2 ^ 32) y.toBitVec.toNat (32 - 32))) (e0.trans (congrArg lN (ld_wn0 _ _))) ?_
  refine lv_lstore_n (lv' := [(2, .long (lN (ld_wn (x.toBitVec.toNat + c0 * 2 ^ 32) y.toBitVec.toNat (32 - 32)))), (0, .int x), (1, .int y)]) hx hb dX1_wide_2 rfl hl (by decide) rfl (fun ls hl => ?_)
  refine lv_bipush (v := nI 31) hx hb dX1_wide_3 (by decide +kernel) ?_
  refine lv_istore (lv' := [(4, .int (nI 31)), (2, .long (lN (ld_wn (x.toBitVec.toNat + c0 * 2 ^ 32) y.toBitVec.toNat (32 - 32)))), (0, .int x), (1, .int y)]) hx hb dX1_wide_5 hl (by decide) rfl (fun ls hl => ?_)
  have key : ∀ (i : Nat), i ≤ 32 → ∀ (ls : Array Slot), lv_has ls 5 [(1, .int y), (2, .long (lN (ld_wn (x.toBitVec.toNat + c0 * 2 ^ 32) y.toBitVec.toNat (32 - i)))), (4, .int (ld_dn i))] → W p l e (headSpec (ws_ yX1_wide cX1_wide 5 (some .long)) ({ frames := 0, cells := 0, slots := 0, locals := 0 } : Room)).room s m ([.int x, .int y] : List Value).toArray below meth c s.heap [] (0) (0) (MQ below (va_Ql (fun (r : Int64) (_ : Unit) => r = ld_wd x y) (ld_B dC dI A (fun (_ : Unit) => []) []) A) ([.int x, .int y] : List Value).toArray s 0 0 A) (F0 m 7 ls []) := by
    intro i
    induction i with
    | zero =>
      intro h2 ls hl
      refine lv_iload hx hb dX1_wide_7 (lv_at hl 2 rfl) ?_
      refine lv_if_lt (tgt := 32) hx hb dX1_wide_9 (by decide) (fun c_47 => ?_) (fun c_47 => ?_)
      · refine lv_lload_n hx hb dX1_wide_32 rfl (lv_at hl 1 rfl) ?_
        have hP9 := hP.sub (ws' := []) [] rfl
        have hD9 := hD.sub (ws' := []) [] (by decide) rfl
        have hK9 := hK.sub (tys' := []) [] rfl
        exact W.lret (v := (lN (ld_wn (x.toBitVec.toNat + c0 * 2 ^ 32) y.toBitVec.toNat (32 - 0)))) hx hb hr (fun t ht hW => ⟨⟨(lN (ld_wn (x.toBitVec.toNat + c0 * 2 ^ 32) y.toBitVec.toNat (32 - 0))), (), rfl, (ld_wn_end x y c0), by rw [ht]; exact hP9, va_K.moved hW.alike hK9, hD9⟩, hS.F ht⟩) hS.2.2 dX1_wide_33
      · exact absurd ((ld_dn_neg (by decide)).mpr rfl) c_47
    | succ i ih =>
      intro h2 ls hl
      rw [ld_dns] at hl
      refine lv_iload hx hb dX1_wide_7 (lv_at hl 2 rfl) ?_
      refine lv_if_lt (tgt := 32) hx hb dX1_wide_9 (by decide) (fun c_48 => ?_) (fun c_48 => ?_)
      · exact absurd c_48 (nI_pos (by omega))
      · refine lv_ldc2 hx hb hown (hts _ q283) dX1_wide_12 ?_
        refine lv_lload_n hx hb dX1_wide_15 rfl (lv_at hl 1 rfl) ?_
        refine lv_lmul hx hb dX1_wide_16 ?_
        refine lv_iload_n hx hb dX1_wide_17 rfl (lv_at hl 0 rfl) ?_
        refine lv_iload hx hb dX1_wide_18 (lv_at hl 2 rfl) ?_
        refine lv_ishr hx hb dX1_wide_20 ?_
        refine lv_iconst (v := nI 1) hx hb dX1_wide_21 (by decide +kernel) ?_
        refine lv_iand hx hb dX1_wide_22 ?_
        refine ld_topi (y := nI (y.toBitVec.toNat / 2 ^ i % 2)) (ld_bitk y (by omega)) ?_
        refine lv_i2l hx hb dX1_wide_23 rfl ?_
        refine lv_ladd hx hb dX1_wide_24 ?_
        refine ld_topl (y := lN (ld_wn (x.toBitVec.toNat + c0 * 2 ^ 32) y.toBitVec.toNat (32 - i))) (by rw [show 32 - (i + 1) = 31 - i by omega]; exact ld_wn_step _ _ i (by omega)) ?_
        refine lv_lstore_n (lv' := [(2, .long (lN (ld_wn (x.toBitVec.toNat + c0 * 2 ^ 32) y.toBitVec.toNat (32 - i)))), (1, .int y), (4, .int (nI i))]) hx hb dX1_wide_25 rfl hl (by decide) rfl (fun ls hl => ?_)
        refine lv_iinc (v := ld_dn i) (lv' := [(4, .int (ld_dn i)), (2, .long (lN (ld_wn (x.toBitVec.toNat + c0 * 2 ^ 32) y.toBitVec.toNat (32 - i)))), (1, .int y)]) hx hb dX1_wide_26 hl (k := 2) rfl (ld_dec i) (by decide) rfl (fun ls hl => ?_)
        refine lv_goto (tgt := 7) hx hb dX1_wide_29 (by decide) ?_
        exact ih (by omega) ls (lv_sub hl [2, 1, 0] rfl)
  exact key 32 (by decide) ls (by rw [show ld_dn 32 = nI 31 from ld_dns 31]; exact lv_sub hl [3, 1, 0] rfl)
set_option maxHeartbeats 4000000 in
set_option maxRecDepth 100000 in
/-- LongRowDeskModel.set -/
theorem metX1_set (l : Launch) (dC : Nat → ClassId) (dI : Nat → Nat → Nat) (sz : Nat) (h0 a0 : Nat) (d0 : ClassId) (f : Nat → Int64) (i x y : Int32) : Met l yX1_set (ws_ yX1_set cX1_set 4 none) ({ frames := 1, cells := 0, slots := 0, locals := 32 } : Room) (va_Pc [.ref h0, .int i, .int x, .int y] (fun U => ld_I dC dI sz [ld_O h0 1 a0, ld_A a0 d0 f] [(d0, .long)] U)) (va_Qv (fun (g : Nat → Int64) => g = vp_updL f (ld_pl i) (ld_wd x y)) (ld_B dC dI (va_A [ld_O h0 1 a0, ld_A a0 d0 f] sz) (fun (g : Nat → Int64) => [ld_O h0 1 a0, ld_A a0 d0 g]) [(d0, .long)]) (va_A [ld_O h0 1 a0, ld_A a0 d0 f] sz)) 0 0 (va_A [ld_O h0 1 a0, ld_A a0 d0 f] sz) := by
  refine Met.ofW (cc := cX1_set) (maxL := 4) (ret := none) (by decide) rfl ?_
  intro p e s m args below meth c s₁ B hml hv
  obtain ⟨rfl, hsz, hP, hK, hD0⟩ := hv
  have hx := B.exec
  have hb := B.bytes
  have hr := B.returns
  have hts := atoms_spec (ws := (ws_ yX1_set cX1_set 4 none)) B.pre
  have hts : ∀ w ∈ lw_all, w.before _ s = true := fun w h => hts w (List.mem_cons_of_mem _ h)
  have hown : s.vm.findClass RX1 = some m.cls := findClass_of_methodNamed B.named
  have hlocks := B.notSynchronized
  subst hsz
  have hD := hD0.self (sz := s.heap.size)
  generalize hAe : va_A [ld_O h0 1 a0, ld_A a0 d0 f] s.heap.size = A at hD ⊢
  have hA : ∀ q : Nat, s.heap.size ≤ q → A q := fun q h => by rw [← hAe]; exact Or.inr h
  have hS : va_S A s.heap s.heap [] := va_S.rf
  have hP : va_P (dC, dI) ld_Cl [ld_O h0 1 a0, ld_A a0 d0 f] s.heap := hP
  have hl := lv_entry ([.ref h0, .int i, .int x, .int y]) (n := 4) (Nat.le_of_ble_eq_true rfl)
  rw [lg_entry_eq]
  generalize (lg_sl ([.ref h0, .int i, .int x, .int y]) ++ List.replicate (4 - (lg_sl ([.ref h0, .int i, .int x, .int y])).length) Slot.unset).toArray = ls at hl ⊢
  have hl : lv_has ls 4 [(0, .ref h0), (1, .int i), (2, .int x), (3, .int y)] := hl
  refine lv_aload_n hx hb dX1_set_0 rfl (lv_at hl 0 rfl) ?_
  refine va_get (D := (dC, dI)) (ci := 1) (v := .ref a0) (C := RX1) (T := TX1) (N := 1) hx hb hts in_X1 hown hK hP 0 rfl rfl 0 (by decide) (hts _ q268) (fun _ h9 => h9) rfl dX1_set_1 ?_
  refine lv_iload_n hx hb dX1_set_4 rfl (lv_at hl 1 rfl) ?_
  have hPc := hP.sub (ws' := []) [] rfl
  have hDc := hD.sub (ws' := []) [] (by decide) rfl
  have hKc := hK.sub (tys' := []) [] rfl
  have hFc := va_free (wc := []) hD hS hA [] rfl
  refine va_calli (va_runS (As := [.int i]) (rest := [.ref a0]) ⟨hx, hb, hml, hown, hts⟩ (metX1_place l dC dI s.heap.size i) (va_cwS 1 hts (lw_S q276 q277 q6 q278) rfl rfl rfl (by decide +kernel) ⟨Nat.le_of_ble_eq_true rfl, Nat.le_of_ble_eq_true rfl⟩) ⟨fun a U g mk q => by obtain ⟨q0, q1, qP, qK, qD⟩ := q; exact ⟨q0, q1, qP, va_K.moved (u := U) (U := U.calling g mk a) (Vm.Alike.refl U.vm) qK, qD⟩, fun U hU hW => ⟨rfl, by rw [hU], by rw [hU]; exact hPc, va_K.moved hW.alike hKc, hDc.weaken (fun _ _ _ _ => trivial)⟩⟩ rfl rfl hl.1 rfl (lv_room (Nat.le_of_ble_eq_true rfl)) dX1_set_5 ⟨Nat.le_of_ble_eq_true rfl, Nat.le_of_ble_eq_true rfl⟩) hS (fun q _ h => hFc q h) hFc (fun r_49 u t H1 locs ht hvm hw hB hz1 hk1 hS => ?_)
  obtain ⟨hP1, hK1, hD1⟩ := hB
  rw [ht] at hP1
  have hK1 := va_K.moved hvm.symm hK1
  obtain ⟨hP, hD⟩ := va_join (wr := [ld_O h0 1 a0, ld_A a0 d0 f]) (w1 := []) hP hD [] [0, 1] rfl rfl (by decide) (by decide) hk1 hFc hP1 hD1
  have hK := (hK.sub (tys' := [(d0, .long)]) [0] rfl).app hK1
  generalize H1 = H at hP hS ⊢
  have hP : va_P (dC, dI) ld_Cl [ld_O h0 1 a0, ld_A a0 d0 f] H := hP
  have hD : va_D A [ld_O h0 1 a0, ld_A a0 d0 f] := hD
  have hK : va_K (dC, dI) ld_Cl [(d0, .long)] s := hK
  have hw : r_49 = nI (ld_pl i) := hw
  subst hw
  refine lv_iload_n hx hb dX1_set_8 rfl (lv_at hl 2 rfl) ?_
  refine lv_iload_n hx hb dX1_set_9 rfl (lv_at hl 3 rfl) ?_
  have hPc := hP.sub (ws' := []) [] rfl
  have hDc := hD.sub (ws' := []) [] (by decide) rfl
  have hKc := hK.sub (tys' := []) [] rfl
  have hFc := va_free (wc := []) hD hS hA [] rfl
  refine va_calll (va_runS (As := [.int x, .int y]) (rest := [.int (nI (ld_pl i)), .ref a0]) ⟨hx, hb, hml, hown, hts⟩ (metX1_wide l dC dI H.size x y) (va_cwS 2 hts (lw_S q280 q281 q6 q282) rfl rfl rfl (by decide +kernel) ⟨Nat.le_of_ble_eq_true rfl, Nat.le_of_ble_eq_true rfl⟩) ⟨fun a U g mk q => by obtain ⟨q0, q1, qP, qK, qD⟩ := q; exact ⟨q0, q1, qP, va_K.moved (u := U) (U := U.calling g mk a) (Vm.Alike.refl U.vm) qK, qD⟩, fun U hU hW => ⟨rfl, by rw [hU], by rw [hU]; exact hPc, va_K.moved hW.alike hKc, hDc.weaken (fun _ _ _ _ => trivial)⟩⟩ rfl rfl hl.1 rfl (lv_room (Nat.le_of_ble_eq_true rfl)) dX1_set_10 ⟨Nat.le_of_ble_eq_true rfl, Nat.le_of_ble_eq_true rfl⟩) hS (fun q _ h => hFc q h) hFc (fun r_50 u t H1 locs ht hvm hw hB hz1 hk1 hS => ?_)
  obtain ⟨hP1, hK1, hD1⟩ := hB
  rw [ht] at hP1
  have hK1 := va_K.moved hvm.symm hK1
  obtain ⟨hP, hD⟩ := va_join (wr := [ld_O h0 1 a0, ld_A a0 d0 f]) (w1 := []) hP hD [] [0, 1] rfl rfl (by decide) (by decide) hk1 hFc hP1 hD1
  have hK := (hK.sub (tys' := [(d0, .long)]) [0] rfl).app hK1
  generalize H1 = H at hP hS ⊢
  have hP : va_P (dC, dI) ld_Cl [ld_O h0 1 a0, ld_A a0 d0 f] H := hP
  have hD : va_D A [ld_O h0 1 a0, ld_A a0 d0 f] := hD
  have hK : va_K (dC, dI) ld_Cl [(d0, .long)] s := hK
  have hw : r_50 = ld_wd x y := hw
  subst hw
  refine ld_last_ (n := 12) (f := f) (i := (ld_pl i)) hx hb hK hP hD hS 1 0 rfl rfl (ld_pl_lt i) (by decide) dX1_set_13 (fun H locs hP hD hS => ?_)
  have hP : va_P (dC, dI) ld_Cl [ld_O h0 1 a0, ld_A a0 d0 (vp_updL f (ld_pl i) (ld_wd x y))] H := hP
  have hD : va_D A [ld_O h0 1 a0, ld_A a0 d0 (vp_updL f (ld_pl i) (ld_wd x y))] := hD
  have hP9 := hP.sub (ws' := [ld_O h0 1 a0, ld_A a0 d0 (vp_updL f (ld_pl i) (ld_wd x y))]) [0, 1] rfl
  have hD9 := hD.sub (ws' := [ld_O h0 1 a0, ld_A a0 d0 (vp_updL f (ld_pl i) (ld_wd x y))]) [0, 1] (by decide) rfl
  have hK9 := hK.sub (tys' := [(d0, .long)]) [0] rfl
  exact W.vret hx hb hr (fun t ht hW => ⟨⟨vp_updL f (ld_pl i) (ld_wd x y), rfl, rfl, by rw [ht]; exact hP9, va_K.moved hW.alike hK9, hD9⟩, hS.F ht⟩) hS.2.2 dX1_set_14
set_option maxHeartbeats 4000000 in
set_option maxRecDepth 100000 in
/-- LongRowDeskModel.get -/
theorem metX1_get (l : Launch) (dC : Nat → ClassId) (dI : Nat → Nat → Nat) (sz : Nat) (h0 a0 : Nat) (d0 : ClassId) (f : Nat → Int64) (i : Int32) : Met l yX1_get (ws_ yX1_get cX1_get 2 (some .long)) ({ frames := 1, cells := 0, slots := 0, locals := 32 } : Room) (va_Pc [.ref h0, .int i] (fun U => ld_I dC dI sz [ld_O h0 1 a0, ld_A a0 d0 f] [(d0, .long)] U)) (va_Ql (fun (r : Int64) (_ : Unit) => r = f (ld_pl i)) (ld_B dC dI (va_A [ld_O h0 1 a0, ld_A a0 d0 f] sz) (fun (_ : Unit) => [ld_O h0 1 a0, ld_A a0 d0 f]) [(d0, .long)]) (va_A [ld_O h0 1 a0, ld_A a0 d0 f] sz)) 0 0 (va_A [ld_O h0 1 a0, ld_A a0 d0 f] sz) := by
  refine Met.ofW (cc := cX1_get) (maxL := 2) (ret := (some .long)) (by decide) rfl ?_
  intro p e s m args below meth c s₁ B hml hv
  obtain ⟨rfl, hsz, hP, hK, hD0⟩ := hv
  have hx := B.exec
  have hb := B.bytes
  have hr := B.returns
  have hts := atoms_spec (ws := (ws_ yX1_get cX1_get 2 (some .long))) B.pre
  have hts : ∀ w ∈ lw_all, w.before _ s = true := fun w h => hts w (List.mem_cons_of_mem _ h)
  have hown : s.vm.findClass RX1 = some m.cls := findClass_of_methodNamed B.named
  have hlocks := B.notSynchronized
  subst hsz
  have hD := hD0.self (sz := s.heap.size)
  generalize hAe : va_A [ld_O h0 1 a0, ld_A a0 d0 f] s.heap.size = A at hD ⊢
  have hA : ∀ q : Nat, s.heap.size ≤ q → A q := fun q h => by rw [← hAe]; exact Or.inr h
  have hS : va_S A s.heap s.heap [] := va_S.rf
  have hP : va_P (dC, dI) ld_Cl [ld_O h0 1 a0, ld_A a0 d0 f] s.heap := hP
  have hl := lv_entry ([.ref h0, .int i]) (n := 2) (Nat.le_of_ble_eq_true rfl)
  rw [lg_entry_eq]
  generalize (lg_sl ([.ref h0, .int i]) ++ List.replicate (2 - (lg_sl ([.ref h0, .int i])).length) Slot.unset).toArray = ls at hl ⊢
  have hl : lv_has ls 2 [(0, .ref h0), (1, .int i)] := hl
  refine lv_aload_n hx hb dX1_get_0 rfl (lv_at hl 0 rfl) ?_
  refine va_get (D := (dC, dI)) (ci := 1) (v := .ref a0) (C := RX1) (T := TX1) (N := 1) hx hb hts in_X1 hown hK hP 0 rfl rfl 0 (by decide) (hts _ q268) (fun _ h9 => h9) rfl dX1_get_1 ?_
  refine lv_iload_n hx hb dX1_get_4 rfl (lv_at hl 1 rfl) ?_
  have hPc := hP.sub (ws' := []) [] rfl
  have hDc := hD.sub (ws' := []) [] (by decide) rfl
  have hKc := hK.sub (tys' := []) [] rfl
  have hFc := va_free (wc := []) hD hS hA [] rfl
  refine va_calli (va_runS (As := [.int i]) (rest := [.ref a0]) ⟨hx, hb, hml, hown, hts⟩ (metX1_place l dC dI s.heap.size i) (va_cwS 1 hts (lw_S q276 q277 q6 q278) rfl rfl rfl (by decide +kernel) ⟨Nat.le_of_ble_eq_true rfl, Nat.le_of_ble_eq_true rfl⟩) ⟨fun a U g mk q => by obtain ⟨q0, q1, qP, qK, qD⟩ := q; exact ⟨q0, q1, qP, va_K.moved (u := U) (U := U.calling g mk a) (Vm.Alike.refl U.vm) qK, qD⟩, fun U hU hW => ⟨rfl, by rw [hU], by rw [hU]; exact hPc, va_K.moved hW.alike hKc, hDc.weaken (fun _ _ _ _ => trivial)⟩⟩ rfl rfl hl.1 rfl (lv_room (Nat.le_of_ble_eq_true rfl)) dX1_get_5 ⟨Nat.le_of_ble_eq_true rfl, Nat.le_of_ble_eq_true rfl⟩) hS (fun q _ h => hFc q h) hFc (fun r_51 u t H1 locs ht hvm hw hB hz1 hk1 hS => ?_)
  obtain ⟨hP1, hK1, hD1⟩ := hB
  rw [ht] at hP1
  have hK1 := va_K.moved hvm.symm hK1
  obtain ⟨hP, hD⟩ := va_join (wr := [ld_O h0 1 a0, ld_A a0 d0 f]) (w1 := []) hP hD [] [0, 1] rfl rfl (by decide) (by decide) hk1 hFc hP1 hD1
  have hK := (hK.sub (tys' := [(d0, .long)]) [0] rfl).app hK1
  generalize H1 = H at hP hS ⊢
  have hP : va_P (dC, dI) ld_Cl [ld_O h0 1 a0, ld_A a0 d0 f] H := hP
  have hD : va_D A [ld_O h0 1 a0, ld_A a0 d0 f] := hD
  have hK : va_K (dC, dI) ld_Cl [(d0, .long)] s := hK
  have hw : r_51 = nI (ld_pl i) := hw
  subst hw
  refine ld_lald (n := 12) (f := f) (i := (ld_pl i)) hx hb hK hP 1 0 rfl rfl (ld_pl_lt i) (by decide) dX1_get_8 ?_
  have hP9 := hP.sub (ws' := [ld_O h0 1 a0, ld_A a0 d0 f]) [0, 1] rfl
  have hD9 := hD.sub (ws' := [ld_O h0 1 a0, ld_A a0 d0 f]) [0, 1] (by decide) rfl
  have hK9 := hK.sub (tys' := [(d0, .long)]) [0] rfl
  exact W.lret (v := (f ((ld_pl i)))) hx hb hr (fun t ht hW => ⟨⟨(f ((ld_pl i))), (), rfl, rfl, by rw [ht]; exact hP9, va_K.moved hW.alike hK9, hD9⟩, hS.F ht⟩) hS.2.2 dX1_get_9
end
section
/-! LongRowDeskModel: reverse, most, least -/
set_option maxRecDepth 100000
set_option maxHeartbeats 4000000 in
set_option maxRecDepth 100000 in
/-- LongRowDeskModel.reverse -/
theorem metX1_reverse (l : Launch) (dC : Nat → ClassId) (dI : Nat → Nat → Nat) (sz : Nat) (h0 a0 : Nat) (d0 : ClassId) (f : Nat → Int64) (x y : Int32) : Met l yX1_reverse (ws_ yX1_reverse cX1_reverse 7 none) ({ frames := 0, cells := 1, slots := 12, locals := 0 } : Room) (va_Pc [.ref h0, .int x, .int y] (fun U => ld_I dC dI sz [ld_O h0 1 a0, ld_A a0 d0 f] [(d0, .long)] U)) (va_Qv (fun (g : Nat → Int64) => ∀ j, j < 12 → g j = ld_rv f (ld_fr x) (ld_tk (ld_fr x) y) j) (ld_B dC dI (va_A [ld_O h0 1 a0, ld_A a0 d0 f] sz) (fun (g : Nat → Int64) => [ld_O h0 1 a0, ld_A a0 d0 g]) [(d0, .long)]) (va_A [ld_O h0 1 a0, ld_A a0 d0 f] sz)) 1 12 (va_A [ld_O h0 1 a0, ld_A a0 d0 f] sz) := by
  refine Met.ofW (cc := cX1_reverse) (maxL := 7) (ret := none) (by decide) rfl ?_
  intro p e s m args below meth c s₁ B hml hv
  obtain ⟨rfl, hsz, hP, hK, hD0⟩ := hv
  have hx := B.exec
  have hb := B.bytes
  have hr := B.returns
  have hts := atoms_spec (ws := (ws_ yX1_reverse cX1_reverse 7 none)) B.pre
  have hts : ∀ w ∈ lw_all, w.before _ s = true := fun w h => hts w (List.mem_cons_of_mem _ h)
  have hown : s.vm.findClass RX1 = some m.cls := findClass_of_methodNamed B.named
  have hlocks := B.notSynchronized
  subst hsz
  have hD := hD0.self (sz := s.heap.size)
  generalize hAe : va_A [ld_O h0 1 a0, ld_A a0 d0 f] s.heap.size = A at hD ⊢
  have hA : ∀ q : Nat, s.heap.size ≤ q → A q := fun q h => by rw [← hAe]; exact Or.inr h
  have hS : va_S A s.heap s.heap [] := va_S.rf
  have hP : va_P (dC, dI) ld_Cl [ld_O h0 1 a0, ld_A a0 d0 f] s.heap := hP
  have hl := lv_entry ([.ref h0, .int x, .int y]) (n := 7) (Nat.le_of_ble_eq_true rfl)
  rw [lg_entry_eq]
  generalize (lg_sl ([.ref h0, .int x, .int y]) ++ List.replicate (7 - (lg_sl ([.ref h0, .int x, .int y])).length) Slot.unset).toArray = ls at hl ⊢
  have hl : lv_has ls 7 [(0, .ref h0), (1, .int x), (2, .int y)] := hl
  have hab := (ld_tk_in (ld_fr_le x) y).1
  have h12 := (ld_tk_in (ld_fr_le x) y).2
  refine lv_iload_n hx hb dX1_reverse_0 rfl (lv_at hl 1 rfl) ?_
  refine lv_ldc hx hb hown (hts _ q279) dX1_reverse_1 ?_
  refine lv_iand hx hb dX1_reverse_3 ?_
  refine lv_bipush (v := nI 13) hx hb dX1_reverse_4 (by decide +kernel) ?_
  refine lv_irem hx hb dX1_reverse_6 (ld_13ne0) ?_
  refine ld_topi (y := nI (ld_fr x)) (ld_fr_eq x) ?_
  refine lv_istore_n (lv' := [(3, .int (nI (ld_fr x))), (0, .ref h0), (1, .int x), (2, .int y)]) hx hb dX1_reverse_7 rfl hl (by decide) rfl (fun ls hl => ?_)
  refine lv_iload_n hx hb dX1_reverse_8 rfl (lv_at hl 0 rfl) ?_
  refine lv_iload_n hx hb dX1_reverse_9 rfl (lv_at hl 3 rfl) ?_
  refine lv_ldc hx hb hown (hts _ q279) dX1_reverse_10 ?_
  refine lv_iand hx hb dX1_reverse_12 ?_
  refine lv_bipush (v := nI 13) hx hb dX1_reverse_13 (by decide +kernel) ?_
  refine lv_iload_n hx hb dX1_reverse_15 rfl (lv_at hl 0 rfl) ?_
  refine lv_isub hx hb dX1_reverse_16 ?_
  refine ld_topi (y := nI (13 - ld_fr x)) (ld_13 (ld_fr_le x)) ?_
  refine lv_irem hx hb dX1_reverse_17 (ld_13ne (ld_fr_le x)) ?_
  refine lv_iadd hx hb dX1_reverse_18 ?_
  refine ld_topi (y := nI (ld_tk (ld_fr x) y)) (ld_tk_eq (ld_fr_le x) y) ?_
  refine lv_istore (lv' := [(4, .int (nI (ld_tk (ld_fr x) y))), (3, .int (nI (ld_fr x))), (0, .ref h0), (1, .int x), (2, .int y)]) hx hb dX1_reverse_19 hl (by decide) rfl (fun ls hl => ?_)
  refine lv_bipush (v := nI 12) hx hb dX1_reverse_21 (by decide +kernel) ?_
  refine va_newa (atype := .long) (ty := .long) (N' := 12) (a0 := (12, .inr (.inl (fun _ => 0)))) hx hb (hts _ q28) rfl hK hP hD hS hA (fun _ => rfl) (by decide +kernel) (by decide +kernel) (Nat.le_of_ble_eq_true rfl) (Nat.le_of_ble_eq_true rfl) (Nat.le_of_ble_eq_true rfl) dX1_reverse_23 (fun q dq H hK hP hD hS => ?_)
  have hP : va_P (dC, dI) ld_Cl [ld_O h0 1 a0, ld_A a0 d0 f, ld_A q dq (fun _ => 0)] H := hP
  have hD : va_D A [ld_O h0 1 a0, ld_A a0 d0 f, ld_A q dq (fun _ => 0)] := hD
  have hK : va_K (dC, dI) ld_Cl [(d0, .long), (dq, .long)] s := hK
  refine lv_astore (lv' := [(5, .ref q), (4, .int (nI (ld_tk (ld_fr x) y))), (3, .int (nI (ld_fr x))), (0, .ref h0), (1, .int x), (2, .int y)]) hx hb dX1_reverse_25 hl (by decide) rfl (fun ls hl => ?_)
  refine lv_iconst (v := nI 0) hx hb dX1_reverse_27 (by decide +kernel) ?_
  refine lv_istore (lv' := [(6, .int (nI 0)), (5, .ref q), (4, .int (nI (ld_tk (ld_fr x) y))), (3, .int (nI (ld_fr x))), (0, .ref h0), (1, .int x), (2, .int y)]) hx hb dX1_reverse_28 hl (by decide) rfl (fun ls hl => ?_)
  have key2 : ∀ (n i : Nat), 12 < i + n → ld_fr x ≤ i → i ≤ ld_tk (ld_fr x) y → ∀ (g hd : Nat → Int64), (∀ j, j < 12 → g j = ld_rp f (ld_fr x) (ld_tk (ld_fr x) y) i j) → (∀ j, j < 12 → hd j = f j) → ∀ (H : Heap) (locs : List Loc), va_P (dC, dI) ld_Cl [ld_O h0 1 a0, ld_A a0 d0 g, ld_A q dq hd] H → va_D A [ld_O h0 1 a0, ld_A a0 d0 g, ld_A q dq hd] → va_S A s.heap H locs → ∀ (ls : Array Slot), lv_has ls 7 [(0, .ref h0), (3, .int (nI (ld_fr x))), (4, .int (nI (ld_tk (ld_fr x) y))), (5, .ref q), (6, .int (nI i))] → W p l e (headSpec (ws_ yX1_reverse cX1_reverse 7 none) ({ frames := 0, cells := 1, slots := 12, locals := 0 } : Room)).room s m ([.ref h0, .int x, .int y] : List Value).toArray below meth c H locs (0 + 1) (0 + 12) (MQ below (va_Qv (fun (g : Nat → Int64) => ∀ j, j < 12 → g j = ld_rv f (ld_fr x) (ld_tk (ld_fr x) y) j) (ld_B dC dI A (fun (g : Nat → Int64) => [ld_O h0 1 a0, ld_A a0 d0 g]) [(d0, .long)]) A) ([.ref h0, .int x, .int y] : List Value).toArray s 1 12 A) (F0 m 58 ls []) := by
    intro n
    induction n with
    | zero => intro i h1 h2 h3; exact absurd h1 (by omega)
    | succ n ih =>
      intro i h1 h2 h3 g hd h4 h5 H locs hP hD hS ls hl
      refine lv_iload hx hb dX1_reverse_58 (lv_at hl 4 rfl) ?_
      refine lv_iload hx hb dX1_reverse_60 (lv_at hl 2 rfl) ?_
      refine lv_icmp_ge (tgt := 90) hx hb dX1_reverse_62 (by decide) (fun c_52 => ?_) (fun c_52 => ?_)
      · have hi : i = ld_tk (ld_fr x) y := by have := (nI_leI (by omega) (by omega)).mp c_52; omega
        rw [hi] at h4
        have hP9 := hP.sub (ws' := [ld_O h0 1 a0, ld_A a0 d0 g]) [0, 1] rfl
        have hD9 := hD.sub (ws' := [ld_O h0 1 a0, ld_A a0 d0 g]) [0, 1] (by decide) rfl
        have hK9 := hK.sub (tys' := [(d0, .long)]) [0] rfl
        exact W.vret hx hb hr (fun t ht hW => ⟨⟨g, rfl, h4, by rw [ht]; exact hP9, va_K.moved hW.alike hK9, hD9⟩, hS.F ht⟩) hS.2.2 dX1_reverse_90
      · have hi : i < (ld_tk (ld_fr x) y) := by
          rcases Nat.lt_or_ge i (ld_tk (ld_fr x) y) with z | z
          · exact z
          · exact absurd (nI_le z (by omega)) c_52
        refine lv_aload_n hx hb dX1_reverse_65 rfl (lv_at hl 0 rfl) ?_
        refine va_get (D := (dC, dI)) (ci := 1) (v := .ref a0) (C := RX1) (T := TX1) (N := 1) hx hb hts in_X1 hown hK hP 0 rfl rfl 0 (by decide) (hts _ q268) (fun _ h9 => h9) rfl dX1_reverse_66 ?_
        refine lv_iload hx hb dX1_reverse_69 (lv_at hl 4 rfl) ?_
        refine lv_aload hx hb dX1_reverse_71 (lv_at hl 3 rfl) ?_
        refine lv_iload_n hx hb dX1_reverse_73 rfl (lv_at hl 1 rfl) ?_
        refine lv_iload hx hb dX1_reverse_74 (lv_at hl 2 rfl) ?_
        refine lv_iadd hx hb dX1_reverse_76 ?_
        refine ld_topi (y := nI (ld_fr x + ld_tk (ld_fr x) y)) (nI_add _ _) ?_
        refine lv_iconst (v := nI 1) hx hb dX1_reverse_77 (by decide +kernel) ?_
        refine lv_isub hx hb dX1_reverse_78 ?_
        refine ld_topi (y := nI (ld_fr x + ld_tk (ld_fr x) y - 1)) (pk_sub (by omega)) ?_
        refine lv_iload hx hb dX1_reverse_79 (lv_at hl 4 rfl) ?_
        refine lv_isub hx hb dX1_reverse_81 ?_
        refine ld_topi (y := nI (ld_fr x + ld_tk (ld_fr x) y - 1 - i)) (pk_sub (by omega)) ?_
        refine ld_lald (n := 12) (f := hd) (i := (ld_fr x + ld_tk (ld_fr x) y - 1 - i)) hx hb hK hP 2 1 rfl rfl (by omega) (by decide) dX1_reverse_82 ?_
        refine ld_last_ (n := 12) (f := g) (i := i) hx hb hK hP hD hS 1 0 rfl rfl (by omega) (by decide) dX1_reverse_83 (fun H locs hP hD hS => ?_)
        have hP : va_P (dC, dI) ld_Cl [ld_O h0 1 a0, ld_A a0 d0 (vp_updL g i (hd (ld_fr x + ld_tk (ld_fr x) y - 1 - i))), ld_A q dq hd] H := hP
        have hD : va_D A [ld_O h0 1 a0, ld_A a0 d0 (vp_updL g i (hd (ld_fr x + ld_tk (ld_fr x) y - 1 - i))), ld_A q dq hd] := hD
        refine lv_iinc (v := nI (i + 1)) (lv' := [(6, .int (nI (i + 1))), (0, .ref h0), (3, .int (nI (ld_fr x))), (4, .int (nI (ld_tk (ld_fr x) y))), (5, .ref q)]) hx hb dX1_reverse_84 hl (k := 4) rfl (ld_inc i) (by decide) rfl (fun ls hl => ?_)
        refine lv_goto (tgt := 58) hx hb dX1_reverse_87 (by decide) ?_
        exact ih (i + 1) (by omega) (by omega) (by omega) _ _ (ld_rp_step h2 hi (h5 _ (by omega)) h4) h5 _ _ hP hD hS ls (lv_sub hl [1, 2, 3, 4, 0] rfl)
  have key1 : ∀ (n i : Nat), 12 < i + n → i ≤ 12 → ∀ (hd : Nat → Int64), (∀ j, j < i → hd j = f j) → ∀ (H : Heap) (locs : List Loc), va_P (dC, dI) ld_Cl [ld_O h0 1 a0, ld_A a0 d0 f, ld_A q dq hd] H → va_D A [ld_O h0 1 a0, ld_A a0 d0 f, ld_A q dq hd] → va_S A s.heap H locs → ∀ (ls : Array Slot), lv_has ls 7 [(0, .ref h0), (3, .int (nI (ld_fr x))), (4, .int (nI (ld_tk (ld_fr x) y))), (5, .ref q), (6, .int (nI i))] → W p l e (headSpec (ws_ yX1_reverse cX1_reverse 7 none) ({ frames := 0, cells := 1, slots := 12, locals := 0 } : Room)).room s m ([.ref h0, .int x, .int y] : List Value).toArray below meth c H locs (0 + 1) (0 + 12) (MQ below (va_Qv (fun (g : Nat → Int64) => ∀ j, j < 12 → g j = ld_rv f (ld_fr x) (ld_tk (ld_fr x) y) j) (ld_B dC dI A (fun (g : Nat → Int64) => [ld_O h0 1 a0, ld_A a0 d0 g]) [(d0, .long)]) A) ([.ref h0, .int x, .int y] : List Value).toArray s 1 12 A) (F0 m 30 ls []) := by
    intro n
    induction n with
    | zero => intro i h1 h2; exact absurd h1 (by omega)
    | succ n ih =>
      intro i h1 h2 hd h3 H locs hP hD hS ls hl
      refine lv_iload hx hb dX1_reverse_30 (lv_at hl 4 rfl) ?_
      refine lv_bipush (v := nI 12) hx hb dX1_reverse_32 (by decide +kernel) ?_
      refine lv_icmp_ge (tgt := 55) hx hb dX1_reverse_34 (by decide) (fun c_53 => ?_) (fun c_53 => ?_)
      · have hi : i = 12 := by have := (nI_leI (by decide) (by omega)).mp c_53; omega
        subst hi
        refine lv_iload_n hx hb dX1_reverse_55 rfl (lv_at hl 1 rfl) ?_
        refine lv_istore (lv' := [(6, .int (nI (ld_fr x))), (0, .ref h0), (3, .int (nI (ld_fr x))), (4, .int (nI (ld_tk (ld_fr x) y))), (5, .ref q)]) hx hb dX1_reverse_56 hl (by decide) rfl (fun ls hl => ?_)
        exact key2 13 (ld_fr x) (by omega) (Nat.le_refl _) hab f hd (fun j _ => (ld_rp_0 f _ _ j).symm) h3 _ _ hP hD hS ls (lv_sub hl [1, 2, 3, 4, 0] rfl)
      · have hi : i < 12 := by
          rcases Nat.lt_or_ge i 12 with z | z
          · exact z
          · exact absurd (nI_le z (by omega)) c_53
        refine lv_aload hx hb dX1_reverse_37 (lv_at hl 3 rfl) ?_
        refine lv_iload hx hb dX1_reverse_39 (lv_at hl 4 rfl) ?_
        refine lv_aload_n hx hb dX1_reverse_41 rfl (lv_at hl 0 rfl) ?_
        refine va_get (D := (dC, dI)) (ci := 1) (v := .ref a0) (C := RX1) (T := TX1) (N := 1) hx hb hts in_X1 hown hK hP 0 rfl rfl 0 (by decide) (hts _ q268) (fun _ h9 => h9) rfl dX1_reverse_42 ?_
        refine lv_iload hx hb dX1_reverse_45 (lv_at hl 4 rfl) ?_
        refine ld_lald (n := 12) (f := f) (i := i) hx hb hK hP 1 0 rfl rfl hi (by decide) dX1_reverse_47 ?_
        refine ld_last_ (n := 12) (f := hd) (i := i) hx hb hK hP hD hS 2 1 rfl rfl hi (by decide) dX1_reverse_48 (fun H locs hP hD hS => ?_)
        have hP : va_P (dC, dI) ld_Cl [ld_O h0 1 a0, ld_A a0 d0 f, ld_A q dq (vp_updL hd i (f i))] H := hP
        have hD : va_D A [ld_O h0 1 a0, ld_A a0 d0 f, ld_A q dq (vp_updL hd i (f i))] := hD
        refine lv_iinc (v := nI (i + 1)) (lv' := [(6, .int (nI (i + 1))), (0, .ref h0), (3, .int (nI (ld_fr x))), (4, .int (nI (ld_tk (ld_fr x) y))), (5, .ref q)]) hx hb dX1_reverse_49 hl (k := 4) rfl (ld_inc i) (by decide) rfl (fun ls hl => ?_)
        refine lv_goto (tgt := 30) hx hb dX1_reverse_52 (by decide) ?_
        exact ih (i + 1) (by omega) (by omega) _ (ld_cp_step h3) _ _ hP hD hS ls (lv_sub hl [1, 2, 3, 4, 0] rfl)
  exact key1 13 0 (by decide) (by decide) _ (fun j hj => absurd hj (Nat.not_lt_zero j)) _ _ hP hD hS ls (lv_sub hl [4, 3, 2, 1, 0] rfl)
set_option maxHeartbeats 4000000 in
set_option maxRecDepth 100000 in
/-- LongRowDeskModel.most -/
theorem metX1_most (l : Launch) (dC : Nat → ClassId) (dI : Nat → Nat → Nat) (sz : Nat) (h0 a0 : Nat) (d0 : ClassId) (f : Nat → Int64) : Met l yX1_most (ws_ yX1_most cX1_most 8 (some .long)) ({ frames := 0, cells := 0, slots := 0, locals := 0 } : Room) (va_Pc [.ref h0] (fun U => ld_I dC dI sz [ld_O h0 1 a0, ld_A a0 d0 f] [(d0, .long)] U)) (va_Ql (fun (r : Int64) (_ : Unit) => r = ld_mx f 12) (ld_B dC dI (va_A [ld_O h0 1 a0, ld_A a0 d0 f] sz) (fun (_ : Unit) => [ld_O h0 1 a0, ld_A a0 d0 f]) [(d0, .long)]) (va_A [ld_O h0 1 a0, ld_A a0 d0 f] sz)) 0 0 (va_A [ld_O h0 1 a0, ld_A a0 d0 f] sz) := by
  refine Met.ofW (cc := cX1_most) (maxL := 8) (ret := (some .long)) (by decide) rfl ?_
  intro p e s m args below meth c s₁ B hml hv
  obtain ⟨rfl, hsz, hP, hK, hD0⟩ := hv
  have hx := B.exec
  have hb := B.bytes
  have hr := B.returns
  have hts := atoms_spec (ws := (ws_ yX1_most cX1_most 8 (some .long))) B.pre
  have hts : ∀ w ∈ lw_all, w.before _ s = true := fun w h => hts w (List.mem_cons_of_mem _ h)
  have hown : s.vm.findClass RX1 = some m.cls := findClass_of_methodNamed B.named
  have hlocks := B.notSynchronized
  subst hsz
  have hD := hD0.self (sz := s.heap.size)
  generalize hAe : va_A [ld_O h0 1 a0, ld_A a0 d0 f] s.heap.size = A at hD ⊢
  have hA : ∀ q : Nat, s.heap.size ≤ q → A q := fun q h => by rw [← hAe]; exact Or.inr h
  have hS : va_S A s.heap s.heap [] := va_S.rf
  have hP : va_P (dC, dI) ld_Cl [ld_O h0 1 a0, ld_A a0 d0 f] s.heap := hP
  have hl := lv_entry ([.ref h0]) (n := 8) (Nat.le_of_ble_eq_true rfl)
  rw [lg_entry_eq]
  generalize (lg_sl ([.ref h0]) ++ List.replicate (8 - (lg_sl ([.ref h0])).length) Slot.unset).toArray = ls at hl ⊢
  have hl : lv_has ls 8 [(0, .ref h0)] := hl
  refine lv_aload_n hx hb dX1_most_0 rfl (lv_at hl 0 rfl) ?_
  refine va_get (D := (dC, dI)) (ci := 1) (v := .ref a0) (C := RX1) (T := TX1) (N := 1) hx hb hts in_X1 hown hK hP 0 rfl rfl 0 (by decide) (hts _ q268) (fun _ h9 => h9) rfl dX1_most_1 ?_
  refine lv_iconst (v := nI 0) hx hb dX1_most_4 (by decide +kernel) ?_
  refine ld_lald (n := 12) (f := f) (i := 0) hx hb hK hP 1 0 rfl rfl (by decide) (by decide) dX1_most_5 ?_
  refine ld_topl (y := ld_mx f 0) rfl ?_
  refine lv_lstore_n (lv' := [(1, .long (ld_mx f 0)), (0, .ref h0)]) hx hb dX1_most_6 rfl hl (by decide) rfl (fun ls hl => ?_)
  refine lv_aload_n hx hb dX1_most_7 rfl (lv_at hl 1 rfl) ?_
  refine va_get (D := (dC, dI)) (ci := 1) (v := .ref a0) (C := RX1) (T := TX1) (N := 1) hx hb hts in_X1 hown hK hP 0 rfl rfl 0 (by decide) (hts _ q268) (fun _ h9 => h9) rfl dX1_most_8 ?_
  refine lv_astore_n (lv' := [(3, .ref a0), (1, .long (ld_mx f 0)), (0, .ref h0)]) hx hb dX1_most_11 rfl hl (by decide) rfl (fun ls hl => ?_)
  refine lv_aload_n hx hb dX1_most_12 rfl (lv_at hl 0 rfl) ?_
  refine va_alen (v := nI 12) hx hb hK hP 1 0 rfl rfl rfl dX1_most_13 ?_
  refine lv_istore (lv' := [(4, .int (nI 12)), (3, .ref a0), (1, .long (ld_mx f 0)), (0, .ref h0)]) hx hb dX1_most_14 hl (by decide) rfl (fun ls hl => ?_)
  refine lv_iconst (v := nI 0) hx hb dX1_most_16 (by decide +kernel) ?_
  refine lv_istore (lv' := [(5, .int (nI 0)), (4, .int (nI 12)), (3, .ref a0), (1, .long (ld_mx f 0)), (0, .ref h0)]) hx hb dX1_most_17 hl (by decide) rfl (fun ls hl => ?_)
  have key : ∀ (n i : Nat), 12 < i + n → i ≤ 12 → ∀ (ls : Array Slot), lv_has ls 8 [(1, .long (ld_mx f i)), (3, .ref a0), (4, .int (nI 12)), (5, .int (nI i))] → W p l e (headSpec (ws_ yX1_most cX1_most 8 (some .long)) ({ frames := 0, cells := 0, slots := 0, locals := 0 } : Room)).room s m ([.ref h0] : List Value).toArray below meth c s.heap [] (0) (0) (MQ below (va_Ql (fun (r : Int64) (_ : Unit) => r = ld_mx f 12) (ld_B dC dI A (fun (_ : Unit) => [ld_O h0 1 a0, ld_A a0 d0 f]) [(d0, .long)]) A) ([.ref h0] : List Value).toArray s 0 0 A) (F0 m 19 ls []) := by
    intro n
    induction n with
    | zero => intro i h1 h2; exact absurd h1 (by omega)
    | succ n ih =>
      intro i h1 h2 ls hl
      refine lv_iload hx hb dX1_most_19 (lv_at hl 3 rfl) ?_
      refine lv_iload hx hb dX1_most_21 (lv_at hl 2 rfl) ?_
      refine lv_icmp_ge (tgt := 52) hx hb dX1_most_23 (by decide) (fun c_54 => ?_) (fun c_54 => ?_)
      · have hi : i = 12 := by have := (nI_leI (by decide) (by omega)).mp c_54; omega
        subst hi
        refine lv_lload_n hx hb dX1_most_52 rfl (lv_at hl 0 rfl) ?_
        have hP9 := hP.sub (ws' := [ld_O h0 1 a0, ld_A a0 d0 f]) [0, 1] rfl
        have hD9 := hD.sub (ws' := [ld_O h0 1 a0, ld_A a0 d0 f]) [0, 1] (by decide) rfl
        have hK9 := hK.sub (tys' := [(d0, .long)]) [0] rfl
        exact W.lret (v := (ld_mx f 12)) hx hb hr (fun t ht hW => ⟨⟨(ld_mx f 12), (), rfl, rfl, by rw [ht]; exact hP9, va_K.moved hW.alike hK9, hD9⟩, hS.F ht⟩) hS.2.2 dX1_most_53
      · have hi : i < 12 := by
          rcases Nat.lt_or_ge i 12 with z | z
          · exact z
          · exact absurd (nI_le z (by omega)) c_54
        refine lv_aload_n hx hb dX1_most_26 rfl (lv_at hl 1 rfl) ?_
        refine lv_iload hx hb dX1_most_27 (lv_at hl 3 rfl) ?_
        refine ld_lald (n := 12) (f := f) (i := i) hx hb hK hP 1 0 rfl rfl hi (by decide) dX1_most_29 ?_
        refine lv_lstore (lv' := [(6, .long (f i)), (1, .long (ld_mx f i)), (3, .ref a0), (4, .int (nI 12)), (5, .int (nI i))]) hx hb dX1_most_30 hl (by decide) rfl (fun ls hl => ?_)
        refine lv_lload hx hb dX1_most_32 (lv_at hl 0 rfl) ?_
        refine lv_lload_n hx hb dX1_most_34 rfl (lv_at hl 1 rfl) ?_
        refine W.lcmp hx hb dX1_most_35 ?_
        refine lv_if_le (tgt := 44) hx hb dX1_most_36 (by decide) (fun c_55 => ?_) (fun c_55 => ?_)
        · have e3 : ld_mx f (i + 1) = ld_mx f i := ld_mx_f (Int64.not_lt.mpr ((lg_cmp_le _ _).mp c_55))
          refine lv_lload_n hx hb dX1_most_44 rfl (lv_at hl 1 rfl) ?_
          refine lv_lstore_n (lv' := [(1, .long (ld_mx f i)), (6, .long (f i)), (3, .ref a0), (4, .int (nI 12)), (5, .int (nI i))]) hx hb dX1_most_45 rfl hl (by decide) rfl (fun ls hl => ?_)
          refine lv_iinc (v := nI (i + 1)) (lv' := [(5, .int (nI (i + 1))), (1, .long (ld_mx f i)), (6, .long (f i)), (3, .ref a0), (4, .int (nI 12))]) hx hb dX1_most_46 hl (k := 4) rfl (ld_inc i) (by decide) rfl (fun ls hl => ?_)
          refine lv_goto (tgt := 19) hx hb dX1_most_49 (by decide) ?_
          exact ih (i + 1) (by omega) (by omega) ls (by rw [e3]; exact lv_sub hl [1, 3, 4, 0] rfl)
        · have e3 : ld_mx f (i + 1) = f i := ld_mx_t (Int64.not_le.mp (fun z => c_55 ((lg_cmp_le _ _).mpr z)))
          refine lv_lload hx hb dX1_most_39 (lv_at hl 0 rfl) ?_
          refine lv_goto (tgt := 45) hx hb dX1_most_41 (by decide) ?_
          refine lv_lstore_n (lv' := [(1, .long (f i)), (6, .long (f i)), (3, .ref a0), (4, .int (nI 12)), (5, .int (nI i))]) hx hb dX1_most_45 rfl hl (by decide) rfl (fun ls hl => ?_)
          refine lv_iinc (v := nI (i + 1)) (lv' := [(5, .int (nI (i + 1))), (1, .long (f i)), (6, .long (f i)), (3, .ref a0), (4, .int (nI 12))]) hx hb dX1_most_46 hl (k := 4) rfl (ld_inc i) (by decide) rfl (fun ls hl => ?_)
          refine lv_goto (tgt := 19) hx hb dX1_most_49 (by decide) ?_
          exact ih (i + 1) (by omega) (by omega) ls (by rw [e3]; exact lv_sub hl [1, 3, 4, 0] rfl)
  exact key 13 0 (by decide) (by decide) ls (lv_sub hl [3, 2, 1, 0] rfl)
set_option maxHeartbeats 4000000 in
set_option maxRecDepth 100000 in
/-- LongRowDeskModel.least -/
theorem metX1_least (l : Launch) (dC : Nat → ClassId) (dI : Nat → Nat → Nat) (sz : Nat) (h0 a0 : Nat) (d0 : ClassId) (f : Nat → Int64) : Met l yX1_least (ws_ yX1_least cX1_least 8 (some .long)) ({ frames := 0, cells := 0, slots := 0, locals := 0 } : Room) (va_Pc [.ref h0] (fun U => ld_I dC dI sz [ld_O h0 1 a0, ld_A a0 d0 f] [(d0, .long)] U)) (va_Ql (fun (r : Int64) (_ : Unit) => r = ld_mn f 12) (ld_B dC dI (va_A [ld_O h0 1 a0, ld_A a0 d0 f] sz) (fun (_ : Unit) => [ld_O h0 1 a0, ld_A a0 d0 f]) [(d0, .long)]) (va_A [ld_O h0 1 a0, ld_A a0 d0 f] sz)) 0 0 (va_A [ld_O h0 1 a0, ld_A a0 d0 f] sz) := by
  refine Met.ofW (cc := cX1_least) (maxL := 8) (ret := (some .long)) (by decide) rfl ?_
  intro p e s m args below meth c s₁ B hml hv
  obtain ⟨rfl, hsz, hP, hK, hD0⟩ := hv
  have hx := B.exec
  have hb := B.bytes
  have hr := B.returns
  have hts := atoms_spec (ws := (ws_ yX1_least cX1_least 8 (some .long))) B.pre
  have hts : ∀ w ∈ lw_all, w.before _ s = true := fun w h => hts w (List.mem_cons_of_mem _ h)
  have hown : s.vm.findClass RX1 = some m.cls := findClass_of_methodNamed B.named
  have hlocks := B.notSynchronized
  subst hsz
  have hD := hD0.self (sz := s.heap.size)
  generalize hAe : va_A [ld_O h0 1 a0, ld_A a0 d0 f] s.heap.size = A at hD ⊢
  have hA : ∀ q : Nat, s.heap.size ≤ q → A q := fun q h => by rw [← hAe]; exact Or.inr h
  have hS : va_S A s.heap s.heap [] := va_S.rf
  have hP : va_P (dC, dI) ld_Cl [ld_O h0 1 a0, ld_A a0 d0 f] s.heap := hP
  have hl := lv_entry ([.ref h0]) (n := 8) (Nat.le_of_ble_eq_true rfl)
  rw [lg_entry_eq]
  generalize (lg_sl ([.ref h0]) ++ List.replicate (8 - (lg_sl ([.ref h0])).length) Slot.unset).toArray = ls at hl ⊢
  have hl : lv_has ls 8 [(0, .ref h0)] := hl
  refine lv_aload_n hx hb dX1_least_0 rfl (lv_at hl 0 rfl) ?_
  refine va_get (D := (dC, dI)) (ci := 1) (v := .ref a0) (C := RX1) (T := TX1) (N := 1) hx hb hts in_X1 hown hK hP 0 rfl rfl 0 (by decide) (hts _ q268) (fun _ h9 => h9) rfl dX1_least_1 ?_
  refine lv_iconst (v := nI 0) hx hb dX1_least_4 (by decide +kernel) ?_
  refine ld_lald (n := 12) (f := f) (i := 0) hx hb hK hP 1 0 rfl rfl (by decide) (by decide) dX1_least_5 ?_
  refine ld_topl (y := ld_mn f 0) rfl ?_
  refine lv_lstore_n (lv' := [(1, .long (ld_mn f 0)), (0, .ref h0)]) hx hb dX1_least_6 rfl hl (by decide) rfl (fun ls hl => ?_)
  refine lv_aload_n hx hb dX1_least_7 rfl (lv_at hl 1 rfl) ?_
  refine va_get (D := (dC, dI)) (ci := 1) (v := .ref a0) (C := RX1) (T := TX1) (N := 1) hx hb hts in_X1 hown hK hP 0 rfl rfl 0 (by decide) (hts _ q268) (fun _ h9 => h9) rfl dX1_least_8 ?_
  refine lv_astore_n (lv' := [(3, .ref a0), (1, .long (ld_mn f 0)), (0, .ref h0)]) hx hb dX1_least_11 rfl hl (by decide) rfl (fun ls hl => ?_)
  refine lv_aload_n hx hb dX1_least_12 rfl (lv_at hl 0 rfl) ?_
  refine va_alen (v := nI 12) hx hb hK hP 1 0 rfl rfl rfl dX1_least_13 ?_
  refine lv_istore (lv' := [(4, .int (nI 12)), (3, .ref a0), (1, .long (ld_mn f 0)), (0, .ref h0)]) hx hb dX1_least_14 hl (by decide) rfl (fun ls hl => ?_)
  refine lv_iconst (v := nI 0) hx hb dX1_least_16 (by decide +kernel) ?_
  refine lv_istore (lv' := [(5, .int (nI 0)), (4, .int (nI 12)), (3, .ref a0), (1, .long (ld_mn f 0)), (0, .ref h0)]) hx hb dX1_least_17 hl (by decide) rfl (fun ls hl => ?_)
  have key : ∀ (n i : Nat), 12 < i + n → i ≤ 12 → ∀ (ls : Array Slot), lv_has ls 8 [(1, .long (ld_mn f i)), (3, .ref a0), (4, .int (nI 12)), (5, .int (nI i))] → W p l e (headSpec (ws_ yX1_least cX1_least 8 (some .long)) ({ frames := 0, cells := 0, slots := 0, locals := 0 } : Room)).room s m ([.ref h0] : List Value).toArray below meth c s.heap [] (0) (0) (MQ below (va_Ql (fun (r : Int64) (_ : Unit) => r = ld_mn f 12) (ld_B dC dI A (fun (_ : Unit) => [ld_O h0 1 a0, ld_A a0 d0 f]) [(d0, .long)]) A) ([.ref h0] : List Value).toArray s 0 0 A) (F0 m 19 ls []) := by
    intro n
    induction n with
    | zero => intro i h1 h2; exact absurd h1 (by omega)
    | succ n ih =>
      intro i h1 h2 ls hl
      refine lv_iload hx hb dX1_least_19 (lv_at hl 3 rfl) ?_
      refine lv_iload hx hb dX1_least_21 (lv_at hl 2 rfl) ?_
      refine lv_icmp_ge (tgt := 52) hx hb dX1_least_23 (by decide) (fun c_56 => ?_) (fun c_56 => ?_)
      · have hi : i = 12 := by have := (nI_leI (by decide) (by omega)).mp c_56; omega
        subst hi
        refine lv_lload_n hx hb dX1_least_52 rfl (lv_at hl 0 rfl) ?_
        have hP9 := hP.sub (ws' := [ld_O h0 1 a0, ld_A a0 d0 f]) [0, 1] rfl
        have hD9 := hD.sub (ws' := [ld_O h0 1 a0, ld_A a0 d0 f]) [0, 1] (by decide) rfl
        have hK9 := hK.sub (tys' := [(d0, .long)]) [0] rfl
        exact W.lret (v := (ld_mn f 12)) hx hb hr (fun t ht hW => ⟨⟨(ld_mn f 12), (), rfl, rfl, by rw [ht]; exact hP9, va_K.moved hW.alike hK9, hD9⟩, hS.F ht⟩) hS.2.2 dX1_least_53
      · have hi : i < 12 := by
          rcases Nat.lt_or_ge i 12 with z | z
          · exact z
          · exact absurd (nI_le z (by omega)) c_56
        refine lv_aload_n hx hb dX1_least_26 rfl (lv_at hl 1 rfl) ?_
        refine lv_iload hx hb dX1_least_27 (lv_at hl 3 rfl) ?_
        refine ld_lald (n := 12) (f := f) (i := i) hx hb hK hP 1 0 rfl rfl hi (by decide) dX1_least_29 ?_
        refine lv_lstore (lv' := [(6, .long (f i)), (1, .long (ld_mn f i)), (3, .ref a0), (4, .int (nI 12)), (5, .int (nI i))]) hx hb dX1_least_30 hl (by decide) rfl (fun ls hl => ?_)
        refine lv_lload hx hb dX1_least_32 (lv_at hl 0 rfl) ?_
        refine lv_lload_n hx hb dX1_least_34 rfl (lv_at hl 1 rfl) ?_
        refine W.lcmp hx hb dX1_least_35 ?_
        refine lv_if_ge (tgt := 44) hx hb dX1_least_36 (by decide) (fun c_57 => ?_) (fun c_57 => ?_)
        · have e3 : ld_mn f (i + 1) = ld_mn f i := ld_mn_f (Int64.not_lt.mpr ((lg_cmp_ge _ _).mp c_57))
          refine lv_lload_n hx hb dX1_least_44 rfl (lv_at hl 1 rfl) ?_
          refine lv_lstore_n (lv' := [(1, .long (ld_mn f i)), (6, .long (f i)), (3, .ref a0), (4, .int (nI 12)), (5, .int (nI i))]) hx hb dX1_least_45 rfl hl (by decide) rfl (fun ls hl => ?_)
          refine lv_iinc (v := nI (i + 1)) (lv' := [(5, .int (nI (i + 1))), (1, .long (ld_mn f i)), (6, .long (f i)), (3, .ref a0), (4, .int (nI 12))]) hx hb dX1_least_46 hl (k := 4) rfl (ld_inc i) (by decide) rfl (fun ls hl => ?_)
          refine lv_goto (tgt := 19) hx hb dX1_least_49 (by decide) ?_
          exact ih (i + 1) (by omega) (by omega) ls (by rw [e3]; exact lv_sub hl [1, 3, 4, 0] rfl)
        · have e3 : ld_mn f (i + 1) = f i := ld_mn_t (Int64.not_le.mp (fun z => c_57 ((lg_cmp_ge _ _).mpr z)))
          refine lv_lload hx hb dX1_least_39 (lv_at hl 0 rfl) ?_
          refine lv_goto (tgt := 45) hx hb dX1_least_41 (by decide) ?_
          refine lv_lstore_n (lv' := [(1, .long (f i)), (6, .long (f i)), (3, .ref a0), (4, .int (nI 12)), (5, .int (nI i))]) hx hb dX1_least_45 rfl hl (by decide) rfl (fun ls hl => ?_)
          refine lv_iinc (v := nI (i + 1)) (lv' := [(5, .int (nI (i + 1))), (1, .long (f i)), (6, .long (f i)), (3, .ref a0), (4, .int (nI 12))]) hx hb dX1_least_46 hl (k := 4) rfl (ld_inc i) (by decide) rfl (fun ls hl => ?_)
          refine lv_goto (tgt := 19) hx hb dX1_least_49 (by decide) ?_
          exact ih (i + 1) (by omega) (by omega) ls (by rw [e3]; exact lv_sub hl [1, 3, 4, 0] rfl)
  exact key 13 0 (by decide) (by decide) ls (lv_sub hl [3, 2, 1, 0] rfl)
end
section
/-! LongRowDeskModel: find, findLast, has -/
set_option maxRecDepth 100000
set_option maxHeartbeats 4000000 in
set_option maxRecDepth 100000 in
/-- LongRowDeskModel.find -/
theorem metX1_find (l : Launch) (dC : Nat → ClassId) (dI : Nat → Nat → Nat) (sz : Nat) (h0 a0 : Nat) (d0 : ClassId) (f : Nat → Int64) (x y : Int32) : Met l yX1_find (ws_ yX1_find cX1_find 7 (some .int)) ({ frames := 1, cells := 0, slots := 0, locals := 32 } : Room) (va_Pc [.ref h0, .int x, .int y] (fun U => ld_I dC dI sz [ld_O h0 1 a0, ld_A a0 d0 f] [(d0, .long)] U)) (va_Qi (fun (r : Int32) (_ : Unit) => ld_first f (ld_wd x y) r) (ld_B dC dI (va_A [ld_O h0 1 a0, ld_A a0 d0 f] sz) (fun (_ : Unit) => [ld_O h0 1 a0, ld_A a0 d0 f]) [(d0, .long)]) (va_A [ld_O h0 1 a0, ld_A a0 d0 f] sz)) 0 0 (va_A [ld_O h0 1 a0, ld_A a0 d0 f] sz) := by
  refine Met.ofW (cc := cX1_find) (maxL := 7) (ret := (some .int)) (by decide) rfl ?_
  intro p e s m args below meth c s₁ B hml hv
  obtain ⟨rfl, hsz, hP, hK, hD0⟩ := hv
  have hx := B.exec
  have hb := B.bytes
  have hr := B.returns
  have hts := atoms_spec (ws := (ws_ yX1_find cX1_find 7 (some .int))) B.pre
  have hts : ∀ w ∈ lw_all, w.before _ s = true := fun w h => hts w (List.mem_cons_of_mem _ h)
  have hown : s.vm.findClass RX1 = some m.cls := findClass_of_methodNamed B.named
  have hlocks := B.notSynchronized
  subst hsz
  have hD := hD0.self (sz := s.heap.size)
  generalize hAe : va_A [ld_O h0 1 a0, ld_A a0 d0 f] s.heap.size = A at hD ⊢
  have hA : ∀ q : Nat, s.heap.size ≤ q → A q := fun q h => by rw [← hAe]; exact Or.inr h
  have hS : va_S A s.heap s.heap [] := va_S.rf
  have hP : va_P (dC, dI) ld_Cl [ld_O h0 1 a0, ld_A a0 d0 f] s.heap := hP
  have hl := lv_entry ([.ref h0, .int x, .int y]) (n := 7) (Nat.le_of_ble_eq_true rfl)
  rw [lg_entry_eq]
  generalize (lg_sl ([.ref h0, .int x, .int y]) ++ List.replicate (7 - (lg_sl ([.ref h0, .int x, .int y])).length) Slot.unset).toArray = ls at hl ⊢
  have hl : lv_has ls 7 [(0, .ref h0), (1, .int x), (2, .int y)] := hl
  refine lv_iload_n hx hb dX1_find_0 rfl (lv_at hl 1 rfl) ?_
  refine lv_iload_n hx hb dX1_find_1 rfl (lv_at hl 2 rfl) ?_
  have hPc := hP.sub (ws' := []) [] rfl
  have hDc := hD.sub (ws' := []) [] (by decide) rfl
  have hKc := hK.sub (tys' := []) [] rfl
  have hFc := va_free (wc := []) hD hS hA [] rfl
  refine va_calll (va_runS (As := [.int x, .int y]) (rest := []) ⟨hx, hb, hml, hown, hts⟩ (metX1_wide l dC dI s.heap.size x y) (va_cwS 2 hts (lw_S q280 q281 q6 q282) rfl rfl rfl (by decide +kernel) ⟨Nat.le_of_ble_eq_true rfl, Nat.le_of_ble_eq_true rfl⟩) ⟨fun a U g mk q => by obtain ⟨q0, q1, qP, qK, qD⟩ := q; exact ⟨q0, q1, qP, va_K.moved (u := U) (U := U.calling g mk a) (Vm.Alike.refl U.vm) qK, qD⟩, fun U hU hW => ⟨rfl, by rw [hU], by rw [hU]; exact hPc, va_K.moved hW.alike hKc, hDc.weaken (fun _ _ _ _ => trivial)⟩⟩ rfl rfl hl.1 rfl (lv_room (Nat.le_of_ble_eq_true rfl)) dX1_find_2 ⟨Nat.le_of_ble_eq_true rfl, Nat.le_of_ble_eq_true rfl⟩) hS (fun q _ h => hFc q h) hFc (fun r_58 u t H1 locs ht hvm hw hB hz1 hk1 hS => ?_)
  obtain ⟨hP1, hK1, hD1⟩ := hB
  rw [ht] at hP1
  have hK1 := va_K.moved hvm.symm hK1
  obtain ⟨hP, hD⟩ := va_join (wr := [ld_O h0 1 a0, ld_A a0 d0 f]) (w1 := []) hP hD [] [0, 1] rfl rfl (by decide) (by decide) hk1 hFc hP1 hD1
  have hK := (hK.sub (tys' := [(d0, .long)]) [0] rfl).app hK1
  generalize H1 = H at hP hS ⊢
  have hP : va_P (dC, dI) ld_Cl [ld_O h0 1 a0, ld_A a0 d0 f] H := hP
  have hD : va_D A [ld_O h0 1 a0, ld_A a0 d0 f] := hD
  have hK : va_K (dC, dI) ld_Cl [(d0, .long)] s := hK
  have hw : r_58 = ld_wd x y := hw
  subst hw
  refine lv_lstore_n (lv' := [(3, .long (ld_wd x y)), (0, .ref h0), (1, .int x), (2, .int y)]) hx hb dX1_find_5 rfl hl (by decide) rfl (fun ls hl => ?_)
  refine lv_iconst (v := (-1)) hx hb dX1_find_6 (by decide +kernel) ?_
  refine lv_istore (lv' := [(5, .int (-1)), (3, .long (ld_wd x y)), (0, .ref h0), (1, .int x), (2, .int y)]) hx hb dX1_find_7 hl (by decide) rfl (fun ls hl => ?_)
  refine lv_bipush (v := nI 11) hx hb dX1_find_9 (by decide +kernel) ?_
  refine lv_istore (lv' := [(6, .int (nI 11)), (5, .int (-1)), (3, .long (ld_wd x y)), (0, .ref h0), (1, .int x), (2, .int y)]) hx hb dX1_find_11 hl (by decide) rfl (fun ls hl => ?_)
  have key : ∀ (i : Nat), i ≤ 12 → ∀ (r : Int32), ld_fi f (ld_wd x y) i r → ∀ (ls : Array Slot), lv_has ls 7 [(0, .ref h0), (3, .long (ld_wd x y)), (5, .int r), (6, .int (ld_dn i))] → W p l e (headSpec (ws_ yX1_find cX1_find 7 (some .int)) ({ frames := 1, cells := 0, slots := 0, locals := 32 } : Room)).room s m ([.ref h0, .int x, .int y] : List Value).toArray below meth c H locs (0 + 0) (0 + 0) (MQ below (va_Qi (fun (r : Int32) (_ : Unit) => ld_first f (ld_wd x y) r) (ld_B dC dI A (fun (_ : Unit) => [ld_O h0 1 a0, ld_A a0 d0 f]) [(d0, .long)]) A) ([.ref h0, .int x, .int y] : List Value).toArray s 0 0 A) (F0 m 13 ls []) := by
    intro i
    induction i with
    | zero =>
      intro h2 r h3 ls hl
      refine lv_iload hx hb dX1_find_13 (lv_at hl 3 rfl) ?_
      refine lv_if_lt (tgt := 45) hx hb dX1_find_15 (by decide) (fun c_59 => ?_) (fun c_59 => ?_)
      · refine lv_iload hx hb dX1_find_45 (lv_at hl 2 rfl) ?_
        have hP9 := hP.sub (ws' := [ld_O h0 1 a0, ld_A a0 d0 f]) [0, 1] rfl
        have hD9 := hD.sub (ws' := [ld_O h0 1 a0, ld_A a0 d0 f]) [0, 1] (by decide) rfl
        have hK9 := hK.sub (tys' := [(d0, .long)]) [0] rfl
        exact W.iret (v := r) hx hb hr (fun t ht hW => ⟨⟨r, (), rfl, (ld_fi_0 h3), by rw [ht]; exact hP9, va_K.moved hW.alike hK9, hD9⟩, hS.F ht⟩) hS.2.2 dX1_find_47
      · exact absurd ((ld_dn_neg (by decide)).mpr rfl) c_59
    | succ i ih =>
      intro h2 r h3 ls hl
      rw [ld_dns] at hl
      refine lv_iload hx hb dX1_find_13 (lv_at hl 3 rfl) ?_
      refine lv_if_lt (tgt := 45) hx hb dX1_find_15 (by decide) (fun c_60 => ?_) (fun c_60 => ?_)
      · exact absurd c_60 (nI_pos (by omega))
      · refine lv_aload_n hx hb dX1_find_18 rfl (lv_at hl 0 rfl) ?_
        refine va_get (D := (dC, dI)) (ci := 1) (v := .ref a0) (C := RX1) (T := TX1) (N := 1) hx hb hts in_X1 hown hK hP 0 rfl rfl 0 (by decide) (hts _ q268) (fun _ h9 => h9) rfl dX1_find_19 ?_
        refine lv_iload hx hb dX1_find_22 (lv_at hl 3 rfl) ?_
        refine ld_lald (n := 12) (f := f) (i := i) hx hb hK hP 1 0 rfl rfl (by omega) (by decide) dX1_find_24 ?_
        refine lv_lload_n hx hb dX1_find_25 rfl (lv_at hl 1 rfl) ?_
        refine W.lcmp hx hb dX1_find_26 ?_
        refine lv_if_ne (tgt := 35) hx hb dX1_find_27 (by decide) (fun c_61 => ?_) (fun c_61 => ?_)
        · refine lv_iload hx hb dX1_find_35 (lv_at hl 2 rfl) ?_
          refine lv_istore (lv' := [(5, .int r), (0, .ref h0), (3, .long (ld_wd x y)), (6, .int (nI i))]) hx hb dX1_find_37 hl (by decide) rfl (fun ls hl => ?_)
          refine lv_iinc (v := ld_dn i) (lv' := [(6, .int (ld_dn i)), (5, .int r), (0, .ref h0), (3, .long (ld_wd x y))]) hx hb dX1_find_39 hl (k := 3) rfl (ld_dec i) (by decide) rfl (fun ls hl => ?_)
          refine lv_goto (tgt := 13) hx hb dX1_find_42 (by decide) ?_
          exact ih (by omega) _ (ld_fi_f (fun z => c_61 (ld_ne_cmp z)) h3) ls (lv_sub hl [2, 3, 1, 0] rfl)
        · refine lv_iload hx hb dX1_find_30 (lv_at hl 3 rfl) ?_
          refine lv_goto (tgt := 37) hx hb dX1_find_32 (by decide) ?_
          refine lv_istore (lv' := [(5, .int (nI i)), (0, .ref h0), (3, .long (ld_wd x y)), (6, .int (nI i))]) hx hb dX1_find_37 hl (by decide) rfl (fun ls hl => ?_)
          refine lv_iinc (v := ld_dn i) (lv' := [(6, .int (ld_dn i)), (5, .int (nI i)), (0, .ref h0), (3, .long (ld_wd x y))]) hx hb dX1_find_39 hl (k := 3) rfl (ld_dec i) (by decide) rfl (fun ls hl => ?_)
          refine lv_goto (tgt := 13) hx hb dX1_find_42 (by decide) ?_
          exact ih (by omega) _ (ld_fi_t (by omega) ((lg_cmp_eq _ _).mp c_61)) ls (lv_sub hl [2, 3, 1, 0] rfl)
  exact key 12 (by decide) _ (ld_fi_12 f _) ls (by rw [show ld_dn 12 = nI 11 from ld_dns 11]; exact lv_sub hl [3, 2, 1, 0] rfl)
set_option maxHeartbeats 4000000 in
set_option maxRecDepth 100000 in
/-- LongRowDeskModel.findLast -/
theorem metX1_findLast (l : Launch) (dC : Nat → ClassId) (dI : Nat → Nat → Nat) (sz : Nat) (h0 a0 : Nat) (d0 : ClassId) (f : Nat → Int64) (x y : Int32) : Met l yX1_findLast (ws_ yX1_findLast cX1_findLast 7 (some .int)) ({ frames := 1, cells := 0, slots := 0, locals := 32 } : Room) (va_Pc [.ref h0, .int x, .int y] (fun U => ld_I dC dI sz [ld_O h0 1 a0, ld_A a0 d0 f] [(d0, .long)] U)) (va_Qi (fun (r : Int32) (_ : Unit) => ld_last f (ld_wd x y) r) (ld_B dC dI (va_A [ld_O h0 1 a0, ld_A a0 d0 f] sz) (fun (_ : Unit) => [ld_O h0 1 a0, ld_A a0 d0 f]) [(d0, .long)]) (va_A [ld_O h0 1 a0, ld_A a0 d0 f] sz)) 0 0 (va_A [ld_O h0 1 a0, ld_A a0 d0 f] sz) := by
  refine Met.ofW (cc := cX1_findLast) (maxL := 7) (ret := (some .int)) (by decide) rfl ?_
  intro p e s m args below meth c s₁ B hml hv
  obtain ⟨rfl, hsz, hP, hK, hD0⟩ := hv
  have hx := B.exec
  have hb := B.bytes
  have hr := B.returns
  have hts := atoms_spec (ws := (ws_ yX1_findLast cX1_findLast 7 (some .int))) B.pre
  have hts : ∀ w ∈ lw_all, w.before _ s = true := fun w h => hts w (List.mem_cons_of_mem _ h)
  have hown : s.vm.findClass RX1 = some m.cls := findClass_of_methodNamed B.named
  have hlocks := B.notSynchronized
  subst hsz
  have hD := hD0.self (sz := s.heap.size)
  generalize hAe : va_A [ld_O h0 1 a0, ld_A a0 d0 f] s.heap.size = A at hD ⊢
  have hA : ∀ q : Nat, s.heap.size ≤ q → A q := fun q h => by rw [← hAe]; exact Or.inr h
  have hS : va_S A s.heap s.heap [] := va_S.rf
  have hP : va_P (dC, dI) ld_Cl [ld_O h0 1 a0, ld_A a0 d0 f] s.heap := hP
  have hl := lv_entry ([.ref h0, .int x, .int y]) (n := 7) (Nat.le_of_ble_eq_true rfl)
  rw [lg_entry_eq]
  generalize (lg_sl ([.ref h0, .int x, .int y]) ++ List.replicate (7 - (lg_sl ([.ref h0, .int x, .int y])).length) Slot.unset).toArray = ls at hl ⊢
  have hl : lv_has ls 7 [(0, .ref h0), (1, .int x), (2, .int y)] := hl
  refine lv_iload_n hx hb dX1_findLast_0 rfl (lv_at hl 1 rfl) ?_
  refine lv_iload_n hx hb dX1_findLast_1 rfl (lv_at hl 2 rfl) ?_
  have hPc := hP.sub (ws' := []) [] rfl
  have hDc := hD.sub (ws' := []) [] (by decide) rfl
  have hKc := hK.sub (tys' := []) [] rfl
  have hFc := va_free (wc := []) hD hS hA [] rfl
  refine va_calll (va_runS (As := [.int x, .int y]) (rest := []) ⟨hx, hb, hml, hown, hts⟩ (metX1_wide l dC dI s.heap.size x y) (va_cwS 2 hts (lw_S q280 q281 q6 q282) rfl rfl rfl (by decide +kernel) ⟨Nat.le_of_ble_eq_true rfl, Nat.le_of_ble_eq_true rfl⟩) ⟨fun a U g mk q => by obtain ⟨q0, q1, qP, qK, qD⟩ := q; exact ⟨q0, q1, qP, va_K.moved (u := U) (U := U.calling g mk a) (Vm.Alike.refl U.vm) qK, qD⟩, fun U hU hW => ⟨rfl, by rw [hU], by rw [hU]; exact hPc, va_K.moved hW.alike hKc, hDc.weaken (fun _ _ _ _ => trivial)⟩⟩ rfl rfl hl.1 rfl (lv_room (Nat.le_of_ble_eq_true rfl)) dX1_findLast_2 ⟨Nat.le_of_ble_eq_true rfl, Nat.le_of_ble_eq_true rfl⟩) hS (fun q _ h => hFc q h) hFc (fun r_62 u t H1 locs ht hvm hw hB hz1 hk1 hS => ?_)
  obtain ⟨hP1, hK1, hD1⟩ := hB
  rw [ht] at hP1
  have hK1 := va_K.moved hvm.symm hK1
  obtain ⟨hP, hD⟩ := va_join (wr := [ld_O h0 1 a0, ld_A a0 d0 f]) (w1 := []) hP hD [] [0, 1] rfl rfl (by decide) (by decide) hk1 hFc hP1 hD1
  have hK := (hK.sub (tys' := [(d0, .long)]) [0] rfl).app hK1
  generalize H1 = H at hP hS ⊢
  have hP : va_P (dC, dI) ld_Cl [ld_O h0 1 a0, ld_A a0 d0 f] H := hP
  have hD : va_D A [ld_O h0 1 a0, ld_A a0 d0 f] := hD
  have hK : va_K (dC, dI) ld_Cl [(d0, .long)] s := hK
  have hw : r_62 = ld_wd x y := hw
  subst hw
  refine lv_lstore_n (lv' := [(3, .long (ld_wd x y)), (0, .ref h0), (1, .int x), (2, .int y)]) hx hb dX1_findLast_5 rfl hl (by decide) rfl (fun ls hl => ?_)
  refine lv_iconst (v := (-1)) hx hb dX1_findLast_6 (by decide +kernel) ?_
  refine lv_istore (lv' := [(5, .int (-1)), (3, .long (ld_wd x y)), (0, .ref h0), (1, .int x), (2, .int y)]) hx hb dX1_findLast_7 hl (by decide) rfl (fun ls hl => ?_)
  refine lv_iconst (v := nI 0) hx hb dX1_findLast_9 (by decide +kernel) ?_
  refine lv_istore (lv' := [(6, .int (nI 0)), (5, .int (-1)), (3, .long (ld_wd x y)), (0, .ref h0), (1, .int x), (2, .int y)]) hx hb dX1_findLast_10 hl (by decide) rfl (fun ls hl => ?_)
  have key : ∀ (n i : Nat), 12 < i + n → i ≤ 12 → ∀ (r : Int32), ld_la f (ld_wd x y) i r → ∀ (ls : Array Slot), lv_has ls 7 [(0, .ref h0), (3, .long (ld_wd x y)), (5, .int r), (6, .int (nI i))] → W p l e (headSpec (ws_ yX1_findLast cX1_findLast 7 (some .int)) ({ frames := 1, cells := 0, slots := 0, locals := 32 } : Room)).room s m ([.ref h0, .int x, .int y] : List Value).toArray below meth c H locs (0 + 0) (0 + 0) (MQ below (va_Qi (fun (r : Int32) (_ : Unit) => ld_last f (ld_wd x y) r) (ld_B dC dI A (fun (_ : Unit) => [ld_O h0 1 a0, ld_A a0 d0 f]) [(d0, .long)]) A) ([.ref h0, .int x, .int y] : List Value).toArray s 0 0 A) (F0 m 12 ls []) := by
    intro n
    induction n with
    | zero => intro i h1 h2; exact absurd h1 (by omega)
    | succ n ih =>
      intro i h1 h2 r h3 ls hl
      refine lv_iload hx hb dX1_findLast_12 (lv_at hl 3 rfl) ?_
      refine lv_bipush (v := nI 12) hx hb dX1_findLast_14 (by decide +kernel) ?_
      refine lv_icmp_ge (tgt := 46) hx hb dX1_findLast_16 (by decide) (fun c_63 => ?_) (fun c_63 => ?_)
      · have hi : i = 12 := by have := (nI_leI (by decide) (by omega)).mp c_63; omega
        subst hi
        refine lv_iload hx hb dX1_findLast_46 (lv_at hl 2 rfl) ?_
        have hP9 := hP.sub (ws' := [ld_O h0 1 a0, ld_A a0 d0 f]) [0, 1] rfl
        have hD9 := hD.sub (ws' := [ld_O h0 1 a0, ld_A a0 d0 f]) [0, 1] (by decide) rfl
        have hK9 := hK.sub (tys' := [(d0, .long)]) [0] rfl
        exact W.iret (v := r) hx hb hr (fun t ht hW => ⟨⟨r, (), rfl, (ld_la_12 h3), by rw [ht]; exact hP9, va_K.moved hW.alike hK9, hD9⟩, hS.F ht⟩) hS.2.2 dX1_findLast_48
      · have hi : i < 12 := by
          rcases Nat.lt_or_ge i 12 with z | z
          · exact z
          · exact absurd (nI_le z (by omega)) c_63
        refine lv_aload_n hx hb dX1_findLast_19 rfl (lv_at hl 0 rfl) ?_
        refine va_get (D := (dC, dI)) (ci := 1) (v := .ref a0) (C := RX1) (T := TX1) (N := 1) hx hb hts in_X1 hown hK hP 0 rfl rfl 0 (by decide) (hts _ q268) (fun _ h9 => h9) rfl dX1_findLast_20 ?_
        refine lv_iload hx hb dX1_findLast_23 (lv_at hl 3 rfl) ?_
        refine ld_lald (n := 12) (f := f) (i := i) hx hb hK hP 1 0 rfl rfl hi (by decide) dX1_findLast_25 ?_
        refine lv_lload_n hx hb dX1_findLast_26 rfl (lv_at hl 1 rfl) ?_
        refine W.lcmp hx hb dX1_findLast_27 ?_
        refine lv_if_ne (tgt := 36) hx hb dX1_findLast_28 (by decide) (fun c_64 => ?_) (fun c_64 => ?_)
        · refine lv_iload hx hb dX1_findLast_36 (lv_at hl 2 rfl) ?_
          refine lv_istore (lv' := [(5, .int r), (0, .ref h0), (3, .long (ld_wd x y)), (6, .int (nI i))]) hx hb dX1_findLast_38 hl (by decide) rfl (fun ls hl => ?_)
          refine lv_iinc (v := nI (i + 1)) (lv' := [(6, .int (nI (i + 1))), (5, .int r), (0, .ref h0), (3, .long (ld_wd x y))]) hx hb dX1_findLast_40 hl (k := 3) rfl (ld_inc i) (by decide) rfl (fun ls hl => ?_)
          refine lv_goto (tgt := 12) hx hb dX1_findLast_43 (by decide) ?_
          exact ih (i + 1) (by omega) (by omega) _ (ld_la_f (fun z => c_64 (ld_ne_cmp z)) h3) ls (lv_sub hl [2, 3, 1, 0] rfl)
        · refine lv_iload hx hb dX1_findLast_31 (lv_at hl 3 rfl) ?_
          refine lv_goto (tgt := 38) hx hb dX1_findLast_33 (by decide) ?_
          refine lv_istore (lv' := [(5, .int (nI i)), (0, .ref h0), (3, .long (ld_wd x y)), (6, .int (nI i))]) hx hb dX1_findLast_38 hl (by decide) rfl (fun ls hl => ?_)
          refine lv_iinc (v := nI (i + 1)) (lv' := [(6, .int (nI (i + 1))), (5, .int (nI i)), (0, .ref h0), (3, .long (ld_wd x y))]) hx hb dX1_findLast_40 hl (k := 3) rfl (ld_inc i) (by decide) rfl (fun ls hl => ?_)
          refine lv_goto (tgt := 12) hx hb dX1_findLast_43 (by decide) ?_
          exact ih (i + 1) (by omega) (by omega) _ (ld_la_t ((lg_cmp_eq _ _).mp c_64)) ls (lv_sub hl [2, 3, 1, 0] rfl)
  exact key 13 0 (by decide) (by decide) _ (ld_la_0 f _) ls (lv_sub hl [3, 2, 1, 0] rfl)
set_option maxHeartbeats 4000000 in
set_option maxRecDepth 100000 in
/-- LongRowDeskModel.has -/
theorem metX1_has (l : Launch) (dC : Nat → ClassId) (dI : Nat → Nat → Nat) (sz : Nat) (h0 a0 : Nat) (d0 : ClassId) (f : Nat → Int64) (x y : Int32) : Met l yX1_has (ws_ yX1_has cX1_has 3 (some .boolean)) ({ frames := 2, cells := 0, slots := 0, locals := 64 } : Room) (va_Pc [.ref h0, .int x, .int y] (fun U => ld_I dC dI sz [ld_O h0 1 a0, ld_A a0 d0 f] [(d0, .long)] U)) (va_Qi (fun (r : Int32) (_ : Unit) => ld_has f (ld_wd x y) r) (ld_B dC dI (va_A [ld_O h0 1 a0, ld_A a0 d0 f] sz) (fun (_ : Unit) => [ld_O h0 1 a0, ld_A a0 d0 f]) [(d0, .long)]) (va_A [ld_O h0 1 a0, ld_A a0 d0 f] sz)) 0 0 (va_A [ld_O h0 1 a0, ld_A a0 d0 f] sz) := by
  refine Met.ofW (cc := cX1_has) (maxL := 3) (ret := (some .boolean)) (by decide) rfl ?_
  intro p e s m args below meth c s₁ B hml hv
  obtain ⟨rfl, hsz, hP, hK, hD0⟩ := hv
  have hx := B.exec
  have hb := B.bytes
  have hr := B.returns
  have hts := atoms_spec (ws := (ws_ yX1_has cX1_has 3 (some .boolean))) B.pre
  have hts : ∀ w ∈ lw_all, w.before _ s = true := fun w h => hts w (List.mem_cons_of_mem _ h)
  have hown : s.vm.findClass RX1 = some m.cls := findClass_of_methodNamed B.named
  have hlocks := B.notSynchronized
  subst hsz
  have hD := hD0.self (sz := s.heap.size)
  generalize hAe : va_A [ld_O h0 1 a0, ld_A a0 d0 f] s.heap.size = A at hD ⊢
  have hA : ∀ q : Nat, s.heap.size ≤ q → A q := fun q h => by rw [← hAe]; exact Or.inr h
  have hS : va_S A s.heap s.heap [] := va_S.rf
  have hP : va_P (dC, dI) ld_Cl [ld_O h0 1 a0, ld_A a0 d0 f] s.heap := hP
  have hl := lv_entry ([.ref h0, .int x, .int y]) (n := 3) (Nat.le_of_ble_eq_true rfl)
  rw [lg_entry_eq]
  generalize (lg_sl ([.ref h0, .int x, .int y]) ++ List.replicate (3 - (lg_sl ([.ref h0, .int x, .int y])).length) Slot.unset).toArray = ls at hl ⊢
  have hl : lv_has ls 3 [(0, .ref h0), (1, .int x), (2, .int y)] := hl
  refine lv_aload_n hx hb dX1_has_0 rfl (lv_at hl 0 rfl) ?_
  refine lv_iload_n hx hb dX1_has_1 rfl (lv_at hl 1 rfl) ?_
  refine lv_iload_n hx hb dX1_has_2 rfl (lv_at hl 2 rfl) ?_
  have hPc := hP.sub (ws' := [ld_O h0 1 a0, ld_A a0 d0 f]) [0, 1] rfl
  have hDc := hD.sub (ws' := [ld_O h0 1 a0, ld_A a0 d0 f]) [0, 1] (by decide) rfl
  have hKc := hK.sub (tys' := [(d0, .long)]) [0] rfl
  have hFc := va_free (wc := [ld_O h0 1 a0, ld_A a0 d0 f]) hD hS hA [0, 1] rfl
  refine va_calli (va_runV (As := [.int x, .int y]) (rest := []) ⟨hx, hb, hml, hown, hts⟩ (metX1_find l dC dI s.heap.size h0 a0 d0 f x y) (cwV 2 hts (lw_V q312 q301 q302 q6 q303) rfl rfl rfl (by decide +kernel) ⟨Nat.le_of_ble_eq_true rfl, Nat.le_of_ble_eq_true rfl⟩) ⟨fun a U g mk q => by obtain ⟨q0, q1, qP, qK, qD⟩ := q; exact ⟨q0, q1, qP, va_K.moved (u := U) (U := U.calling g mk a) (Vm.Alike.refl U.vm) qK, qD⟩, va_recv hK hP (ci := 1) (q0 := 0) rfl rfl, fun U hU hW => ⟨rfl, by rw [hU], by rw [hU]; exact hPc, va_K.moved hW.alike hKc, hDc.weaken (fun _ _ _ _ => trivial)⟩⟩ rfl rfl hl.1 rfl (lv_room (Nat.le_of_ble_eq_true rfl)) dX1_has_3 ⟨Nat.le_of_ble_eq_true rfl, Nat.le_of_ble_eq_true rfl⟩) hS (fun q _ h => hFc q h) hFc (fun r_65 u t H1 locs ht hvm hw hB hz1 hk1 hS => ?_)
  obtain ⟨hP1, hK1, hD1⟩ := hB
  rw [ht] at hP1
  have hK1 := va_K.moved hvm.symm hK1
  obtain ⟨hP, hD⟩ := va_join (wr := []) (w1 := [ld_O h0 1 a0, ld_A a0 d0 f]) hP hD [0, 1] [] rfl rfl (by decide) (by decide) hk1 hFc hP1 hD1
  have hK := (hK.sub (tys' := []) [] rfl).app hK1
  generalize H1 = H at hP hS ⊢
  have hP : va_P (dC, dI) ld_Cl [ld_O h0 1 a0, ld_A a0 d0 f] H := hP
  have hD : va_D A [ld_O h0 1 a0, ld_A a0 d0 f] := hD
  have hK : va_K (dC, dI) ld_Cl [(d0, .long)] s := hK
  refine lv_if_lt (tgt := 13) hx hb dX1_has_6 (by decide) (fun c_66 => ?_) (fun c_66 => ?_)
  · refine lv_iconst (v := nI 0) hx hb dX1_has_13 (by decide +kernel) ?_
    have hP9 := hP.sub (ws' := [ld_O h0 1 a0, ld_A a0 d0 f]) [0, 1] rfl
    have hD9 := hD.sub (ws' := [ld_O h0 1 a0, ld_A a0 d0 f]) [0, 1] (by decide) rfl
    have hK9 := hK.sub (tys' := [(d0, .long)]) [0] rfl
    exact W.zret (v := (nI 0)) hx hb hr (by decide +kernel) (fun t ht hW => ⟨⟨(nI 0), (), rfl, ((ld_first_has hw).1 c_66), by rw [ht]; exact hP9, va_K.moved hW.alike hK9, hD9⟩, hS.F ht⟩) hS.2.2 dX1_has_14
  · refine lv_iconst (v := nI 1) hx hb dX1_has_9 (by decide +kernel) ?_
    refine lv_goto (tgt := 14) hx hb dX1_has_10 (by decide) ?_
    have hP9 := hP.sub (ws' := [ld_O h0 1 a0, ld_A a0 d0 f]) [0, 1] rfl
    have hD9 := hD.sub (ws' := [ld_O h0 1 a0, ld_A a0 d0 f]) [0, 1] (by decide) rfl
    have hK9 := hK.sub (tys' := [(d0, .long)]) [0] rfl
    exact W.zret (v := (nI 1)) hx hb hr (by decide +kernel) (fun t ht hW => ⟨⟨(nI 1), (), rfl, ((ld_first_has hw).2 c_66), by rw [ht]; exact hP9, va_K.moved hW.alike hK9, hD9⟩, hS.F ht⟩) hS.2.2 dX1_has_14
end
section
/-! LongRowDeskModel: ofBytes, letter, within -/
set_option maxRecDepth 100000
set_option maxHeartbeats 4000000 in
set_option maxRecDepth 100000 in
/-- LongRowDeskModel.ofBytes -/
theorem metX1_ofBytes (l : Launch) (dC : Nat → ClassId) (dI : Nat → Nat → Nat) (sz : Nat) (h0 a0 : Nat) (d0 : ClassId) (f : Nat → Int64) (x y : Int32) : Met l yX1_ofBytes (ws_ yX1_ofBytes cX1_ofBytes 7 (some .long)) ({ frames := 0, cells := 0, slots := 0, locals := 0 } : Room) (va_Pc [.ref h0, .int x, .int y] (fun U => ld_I dC dI sz [ld_O h0 1 a0, ld_A a0 d0 f] [(d0, .long)] U)) (va_Ql (fun (r : Int64) (_ : Unit) => r = ld_wd x y) (ld_B dC dI (va_A [ld_O h0 1 a0, ld_A a0 d0 f] sz) (fun (_ : Unit) => [ld_O h0 1 a0, ld_A a0 d0 f]) [(d0, .long)]) (va_A [ld_O h0 1 a0, ld_A a0 d0 f] sz)) 0 0 (va_A [ld_O h0 1 a0, ld_A a0 d0 f] sz) := by
  refine Met.ofW (cc := cX1_ofBytes) (maxL := 7) (ret := (some .long)) (by decide) rfl ?_
  intro p e s m args below meth c s₁ B hml hv
  obtain ⟨rfl, hsz, hP, hK, hD0⟩ := hv
  have hx := B.exec
  have hb := B.bytes
  have hr := B.returns
  have hts := atoms_spec (ws := (ws_ yX1_ofBytes cX1_ofBytes 7 (some .long))) B.pre
  have hts : ∀ w ∈ lw_all, w.before _ s = true := fun w h => hts w (List.mem_cons_of_mem _ h)
  have hown : s.vm.findClass RX1 = some m.cls := findClass_of_methodNamed B.named
  have hlocks := B.notSynchronized
  subst hsz
  have hD := hD0.self (sz := s.heap.size)
  generalize hAe : va_A [ld_O h0 1 a0, ld_A a0 d0 f] s.heap.size = A at hD ⊢
  have hA : ∀ q : Nat, s.heap.size ≤ q → A q := fun q h => by rw [← hAe]; exact Or.inr h
  have hS : va_S A s.heap s.heap [] := va_S.rf
  have hP : va_P (dC, dI) ld_Cl [ld_O h0 1 a0, ld_A a0 d0 f] s.heap := hP
  have hl := lv_entry ([.ref h0, .int x, .int y]) (n := 7) (Nat.le_of_ble_eq_true rfl)
  rw [lg_entry_eq]
  generalize (lg_sl ([.ref h0, .int x, .int y]) ++ List.replicate (7 - (lg_sl ([.ref h0, .int x, .int y])).length) Slot.unset).toArray = ls at hl ⊢
  have hl : lv_has ls 7 [(0, .ref h0), (1, .int x), (2, .int y)] := hl
  refine lv_lconst (v := lN 0) hx hb dX1_ofBytes_0 (by decide +kernel) ?_
  refine ld_topl (y := lN (ld_on x.toBitVec.toNat y.toBitVec.toNat 0)) rfl ?_
  refine lv_lstore_n (lv' := [(3, .long (lN (ld_on x.toBitVec.toNat y.toBitVec.toNat 0))), (0, .ref h0), (1, .int x), (2, .int y)]) hx hb dX1_ofBytes_1 rfl hl (by decide) rfl (fun ls hl => ?_)
  refine lv_iconst (v := nI 0) hx hb dX1_ofBytes_2 (by decide +kernel) ?_
  refine lv_istore (lv' := [(5, .int (nI 0)), (3, .long (lN (ld_on x.toBitVec.toNat y.toBitVec.toNat 0))), (0, .ref h0), (1, .int x), (2, .int y)]) hx hb dX1_ofBytes_3 hl (by decide) rfl (fun ls hl => ?_)
  have key : ∀ (n i : Nat), 8 < i + n → i ≤ 8 → ∀ (ls : Array Slot), lv_has ls 7 [(1, .int x), (2, .int y), (3, .long (lN (ld_on x.toBitVec.toNat y.toBitVec.toNat i))), (5, .int (nI i))] → W p l e (headSpec (ws_ yX1_ofBytes cX1_ofBytes 7 (some .long)) ({ frames := 0, cells := 0, slots := 0, locals := 0 } : Room)).room s m ([.ref h0, .int x, .int y] : List Value).toArray below meth c s.heap [] (0) (0) (MQ below (va_Ql (fun (r : Int64) (_ : Unit) => r = ld_wd x y) (ld_B dC dI A (fun (_ : Unit) => [ld_O h0 1 a0, ld_A a0 d0 f]) [(d0, .long)]) A) ([.ref h0, .int x, .int y] : List Value).toArray s 0 0 A) (F0 m 5 ls []) := by
    intro n
    induction n with
    | zero => intro i h1 h2; exact absurd h1 (by omega)
    | succ n ih =>
      intro i h1 h2 ls hl
      refine lv_iload hx hb dX1_ofBytes_5 (lv_at hl 3 rfl) ?_
      refine lv_bipush (v := nI 8) hx hb dX1_ofBytes_7 (by decide +kernel) ?_
      refine lv_icmp_ge (tgt := 56) hx hb dX1_ofBytes_9 (by decide) (fun c_67 => ?_) (fun c_67 => ?_)
      · have hi : i = 8 := by have := (nI_leI (by decide) (by omega)).mp c_67; omega
        subst hi
        refine lv_lload_n hx hb dX1_ofBytes_56 rfl (lv_at hl 2 rfl) ?_
        have hP9 := hP.sub (ws' := [ld_O h0 1 a0, ld_A a0 d0 f]) [0, 1] rfl
        have hD9 := hD.sub (ws' := [ld_O h0 1 a0, ld_A a0 d0 f]) [0, 1] (by decide) rfl
        have hK9 := hK.sub (tys' := [(d0, .long)]) [0] rfl
        exact W.lret (v := (lN (ld_on x.toBitVec.toNat y.toBitVec.toNat 8))) hx hb hr (fun t ht hW => ⟨⟨(lN (ld_on x.toBitVec.toNat y.toBitVec.toNat 8)), (), rfl, (congrArg lN (ld_on_8 x.toBitVec.isLt y.toBitVec.isLt)), by rw [ht]; exact hP9, va_K.moved hW.alike hK9, hD9⟩, hS.F ht⟩) hS.2.2 dX1_ofBytes_57
      · have hi : i < 8 := by
          rcases Nat.lt_or_ge i 8 with z | z
          · exact z
          · exact absurd (nI_le z (by omega)) c_67
        refine lv_iload hx hb dX1_ofBytes_12 (lv_at hl 3 rfl) ?_
        refine lv_iconst (v := nI 4) hx hb dX1_ofBytes_14 (by decide +kernel) ?_
        refine lv_icmp_ge (tgt := 22) hx hb dX1_ofBytes_15 (by decide) (fun c_68 => ?_) (fun c_68 => ?_)
        · refine lv_iload_n hx hb dX1_ofBytes_22 rfl (lv_at hl 1 rfl) ?_
          refine lv_istore (lv' := [(6, .int y), (1, .int x), (2, .int y), (3, .long (lN (ld_on x.toBitVec.toNat y.toBitVec.toNat i))), (5, .int (nI i))]) hx hb dX1_ofBytes_23 hl (by decide) rfl (fun ls hl => ?_)
          refine lv_ldc2 hx hb hown (hts _ q317) dX1_ofBytes_25 ?_
          refine lv_lload_n hx hb dX1_ofBytes_28 rfl (lv_at hl 3 rfl) ?_
          refine lv_lmul hx hb dX1_ofBytes_29 ?_
          refine lv_iload hx hb dX1_ofBytes_30 (lv_at hl 0 rfl) ?_
          refine lv_bipush (v := nI 24) hx hb dX1_ofBytes_32 (by decide +kernel) ?_
          refine lv_bipush (v := nI 8) hx hb dX1_ofBytes_34 (by decide +kernel) ?_
          refine lv_iload hx hb dX1_ofBytes_36 (lv_at hl 4 rfl) ?_
          refine lv_iconst (v := nI 4) hx hb dX1_ofBytes_38 (by decide +kernel) ?_
          refine lv_irem hx hb dX1_ofBytes_39 (by decide +kernel) ?_
          refine ld_topi (y := nI (i % 4)) (pk_rem (by omega) (by decide) (by decide)) ?_
          refine lv_imul hx hb dX1_ofBytes_40 ?_
          refine ld_topi (y := nI (8 * (i % 4))) (pk_mul _ _) ?_
          refine lv_isub hx hb dX1_ofBytes_41 ?_
          refine ld_topi (y := nI (24 - 8 * (i % 4))) (pk_sub (by omega)) ?_
          refine lv_ishr hx hb dX1_ofBytes_42 ?_
          refine lv_sipush (v := nI 255) hx hb dX1_ofBytes_43 (by decide +kernel) ?_
          refine lv_iand hx hb dX1_ofBytes_46 ?_
          refine ld_topi (y := nI (y.toBitVec.toNat / 2 ^ (24 - 8 * (i % 4)) % 256)) (ld_shb y (by omega)) ?_
          refine lv_i2l hx hb dX1_ofBytes_47 rfl ?_
          refine lv_ladd hx hb dX1_ofBytes_48 ?_
          refine ld_topl (y := lN (ld_on x.toBitVec.toNat y.toBitVec.toNat (i + 1))) (ld_on_step _ _ i _ (Nat.mod_lt _ (by decide)) (by rw [if_neg (by have := (nI_leI (by decide) (by omega)).mp c_68; omega)])) ?_
          refine lv_lstore_n (lv' := [(3, .long (lN (ld_on x.toBitVec.toNat y.toBitVec.toNat (i + 1)))), (6, .int y), (1, .int x), (2, .int y), (5, .int (nI i))]) hx hb dX1_ofBytes_49 rfl hl (by decide) rfl (fun ls hl => ?_)
          refine lv_iinc (v := nI (i + 1)) (lv' := [(5, .int (nI (i + 1))), (3, .long (lN (ld_on x.toBitVec.toNat y.toBitVec.toNat (i + 1)))), (6, .int y), (1, .int x), (2, .int y)]) hx hb dX1_ofBytes_50 hl (k := 4) rfl (ld_inc i) (by decide) rfl (fun ls hl => ?_)
          refine lv_goto (tgt := 5) hx hb dX1_ofBytes_53 (by decide) ?_
          exact ih (i + 1) (by omega) (by omega) ls (lv_sub hl [3, 4, 1, 0] rfl)
        · refine lv_iload_n hx hb dX1_ofBytes_18 rfl (lv_at hl 0 rfl) ?_
          refine lv_goto (tgt := 23) hx hb dX1_ofBytes_19 (by decide) ?_
          refine lv_istore (lv' := [(6, .int x), (1, .int x), (2, .int y), (3, .long (lN (ld_on x.toBitVec.toNat y.toBitVec.toNat i))), (5, .int (nI i))]) hx hb dX1_ofBytes_23 hl (by decide) rfl (fun ls hl => ?_)
          refine lv_ldc2 hx hb hown (hts _ q317) dX1_ofBytes_25 ?_
          refine lv_lload_n hx hb dX1_ofBytes_28 rfl (lv_at hl 3 rfl) ?_
          refine lv_lmul hx hb dX1_ofBytes_29 ?_
          refine lv_iload hx hb dX1_ofBytes_30 (lv_at hl 0 rfl) ?_
          refine lv_bipush (v := nI 24) hx hb dX1_ofBytes_32 (by decide +kernel) ?_
          refine lv_bipush (v := nI 8) hx hb dX1_ofBytes_34 (by decide +kernel) ?_
          refine lv_iload hx hb dX1_ofBytes_36 (lv_at hl 4 rfl) ?_
          refine lv_iconst (v := nI 4) hx hb dX1_ofBytes_38 (by decide +kernel) ?_
          refine lv_irem hx hb dX1_ofBytes_39 (by decide +kernel) ?_
          refine ld_topi (y := nI (i % 4)) (pk_rem (by omega) (by decide) (by decide)) ?_
          refine lv_imul hx hb dX1_ofBytes_40 ?_
          refine ld_topi (y := nI (8 * (i % 4))) (pk_mul _ _) ?_
          refine lv_isub hx hb dX1_ofBytes_41 ?_
          refine ld_topi (y := nI (24 - 8 * (i % 4))) (pk_sub (by omega)) ?_
          refine lv_ishr hx hb dX1_ofBytes_42 ?_
          refine lv_sipush (v := nI 255) hx hb dX1_ofBytes_43 (by decide +kernel) ?_
          refine lv_iand hx hb dX1_ofBytes_46 ?_
          refine ld_topi (y := nI (x.toBitVec.toNat / 2 ^ (24 - 8 * (i % 4)) % 256)) (ld_shb x (by omega)) ?_
          refine lv_i2l hx hb dX1_ofBytes_47 rfl ?_
          refine lv_ladd hx hb dX1_ofBytes_48 ?_
          refine ld_topl (y := lN (ld_on x.toBitVec.toNat y.toBitVec.toNat (i + 1))) (ld_on_step _ _ i _ (Nat.mod_lt _ (by decide)) (by rw [if_pos (Nat.lt_of_not_le (fun z => c_68 (nI_le z (by omega))))])) ?_
          refine lv_lstore_n (lv' := [(3, .long (lN (ld_on x.toBitVec.toNat y.toBitVec.toNat (i + 1)))), (6, .int x), (1, .int x), (2, .int y), (5, .int (nI i))]) hx hb dX1_ofBytes_49 rfl hl (by decide) rfl (fun ls hl => ?_)
          refine lv_iinc (v := nI (i + 1)) (lv' := [(5, .int (nI (i + 1))), (3, .long (lN (ld_on x.toBitVec.toNat y.toBitVec.toNat (i + 1)))), (6, .int x), (1, .int x), (2, .int y)]) hx hb dX1_ofBytes_50 hl (k := 4) rfl (ld_inc i) (by decide) rfl (fun ls hl => ?_)
          refine lv_goto (tgt := 5) hx hb dX1_ofBytes_53 (by decide) ?_
          exact ih (i + 1) (by omega) (by omega) ls (lv_sub hl [3, 4, 1, 0] rfl)
  exact key 9 0 (by decide) (by decide) ls (lv_sub hl [3, 4, 1, 0] rfl)
set_option maxHeartbeats 4000000 in
set_option maxRecDepth 100000 in
/-- LongRowDeskModel.letter -/
theorem metX1_letter (l : Launch) (dC : Nat → ClassId) (dI : Nat → Nat → Nat) (sz : Nat) (h0 a0 : Nat) (d0 : ClassId) (f : Nat → Int64) (i y : Int32) : Met l yX1_letter (ws_ yX1_letter cX1_letter 3 (some .int)) ({ frames := 2, cells := 0, slots := 0, locals := 64 } : Room) (va_Pc [.ref h0, .int i, .int y] (fun U => ld_I dC dI sz [ld_O h0 1 a0, ld_A a0 d0 f] [(d0, .long)] U)) (va_Qi (fun (r : Int32) (_ : Unit) => r = nI (ld_b8 (f (ld_pl i)) (y.toBitVec.toNat % 8))) (ld_B dC dI (va_A [ld_O h0 1 a0, ld_A a0 d0 f] sz) (fun (_ : Unit) => [ld_O h0 1 a0, ld_A a0 d0 f]) [(d0, .long)]) (va_A [ld_O h0 1 a0, ld_A a0 d0 f] sz)) 0 0 (va_A [ld_O h0 1 a0, ld_A a0 d0 f] sz) := by
  refine Met.ofW (cc := cX1_letter) (maxL := 3) (ret := (some .int)) (by decide) rfl ?_
  intro p e s m args below meth c s₁ B hml hv
  obtain ⟨rfl, hsz, hP, hK, hD0⟩ := hv
  have hx := B.exec
  have hb := B.bytes
  have hr := B.returns
  have hts := atoms_spec (ws := (ws_ yX1_letter cX1_letter 3 (some .int))) B.pre
  have hts : ∀ w ∈ lw_all, w.before _ s = true := fun w h => hts w (List.mem_cons_of_mem _ h)
  have hown : s.vm.findClass RX1 = some m.cls := findClass_of_methodNamed B.named
  have hlocks := B.notSynchronized
  subst hsz
  have hD := hD0.self (sz := s.heap.size)
  generalize hAe : va_A [ld_O h0 1 a0, ld_A a0 d0 f] s.heap.size = A at hD ⊢
  have hA : ∀ q : Nat, s.heap.size ≤ q → A q := fun q h => by rw [← hAe]; exact Or.inr h
  have hS : va_S A s.heap s.heap [] := va_S.rf
  have hP : va_P (dC, dI) ld_Cl [ld_O h0 1 a0, ld_A a0 d0 f] s.heap := hP
  have hl := lv_entry ([.ref h0, .int i, .int y]) (n := 3) (Nat.le_of_ble_eq_true rfl)
  rw [lg_entry_eq]
  generalize (lg_sl ([.ref h0, .int i, .int y]) ++ List.replicate (3 - (lg_sl ([.ref h0, .int i, .int y])).length) Slot.unset).toArray = ls at hl ⊢
  have hl : lv_has ls 3 [(0, .ref h0), (1, .int i), (2, .int y)] := hl
  refine lv_aload_n hx hb dX1_letter_0 rfl (lv_at hl 0 rfl) ?_
  refine lv_iload_n hx hb dX1_letter_1 rfl (lv_at hl 1 rfl) ?_
  have hPc := hP.sub (ws' := [ld_O h0 1 a0, ld_A a0 d0 f]) [0, 1] rfl
  have hDc := hD.sub (ws' := [ld_O h0 1 a0, ld_A a0 d0 f]) [0, 1] (by decide) rfl
  have hKc := hK.sub (tys' := [(d0, .long)]) [0] rfl
  have hFc := va_free (wc := [ld_O h0 1 a0, ld_A a0 d0 f]) hD hS hA [0, 1] rfl
  refine va_calll (va_runV (As := [.int i]) (rest := []) ⟨hx, hb, hml, hown, hts⟩ (metX1_get l dC dI s.heap.size h0 a0 d0 f i) (cwV 1 hts (lw_V q322 q285 q286 q6 q287) rfl rfl rfl (by decide +kernel) ⟨Nat.le_of_ble_eq_true rfl, Nat.le_of_ble_eq_true rfl⟩) ⟨fun a U g mk q => by obtain ⟨q0, q1, qP, qK, qD⟩ := q; exact ⟨q0, q1, qP, va_K.moved (u := U) (U := U.calling g mk a) (Vm.Alike.refl U.vm) qK, qD⟩, va_recv hK hP (ci := 1) (q0 := 0) rfl rfl, fun U hU hW => ⟨rfl, by rw [hU], by rw [hU]; exact hPc, va_K.moved hW.alike hKc, hDc.weaken (fun _ _ _ _ => trivial)⟩⟩ rfl rfl hl.1 rfl (lv_room (Nat.le_of_ble_eq_true rfl)) dX1_letter_2 ⟨Nat.le_of_ble_eq_true rfl, Nat.le_of_ble_eq_true rfl⟩) hS (fun q _ h => hFc q h) hFc (fun r_69 u t H1 locs ht hvm hw hB hz1 hk1 hS => ?_)
  obtain ⟨hP1, hK1, hD1⟩ := hB
  rw [ht] at hP1
  have hK1 := va_K.moved hvm.symm hK1
  obtain ⟨hP, hD⟩ := va_join (wr := []) (w1 := [ld_O h0 1 a0, ld_A a0 d0 f]) hP hD [0, 1] [] rfl rfl (by decide) (by decide) hk1 hFc hP1 hD1
  have hK := (hK.sub (tys' := []) [] rfl).app hK1
  generalize H1 = H at hP hS ⊢
  have hP : va_P (dC, dI) ld_Cl [ld_O h0 1 a0, ld_A a0 d0 f] H := hP
  have hD : va_D A [ld_O h0 1 a0, ld_A a0 d0 f] := hD
  have hK : va_K (dC, dI) ld_Cl [(d0, .long)] s := hK
  have hw : r_69 = f (ld_pl i) := hw
  subst hw
  refine lv_bipush (v := nI 56) hx hb dX1_letter_5 (by decide +kernel) ?_
  refine lv_bipush (v := nI 8) hx hb dX1_letter_7 (by decide +kernel) ?_
  refine lv_iload_n hx hb dX1_letter_9 rfl (lv_at hl 2 rfl) ?_
  refine lv_bipush (v := nI 7) hx hb dX1_letter_10 (by decide +kernel) ?_
  refine lv_iand hx hb dX1_letter_12 ?_
  refine lv_imul hx hb dX1_letter_13 ?_
  refine lv_isub hx hb dX1_letter_14 ?_
  refine ld_topi (y := nI (56 - 8 * (y.toBitVec.toNat % 8))) (ld_56 y) ?_
  refine lv_lshr hx hb dX1_letter_15 rfl ?_
  refine lv_ldc2 hx hb hown (hts _ q323) dX1_letter_16 ?_
  refine lv_land hx hb dX1_letter_19 ?_
  refine lv_l2i hx hb dX1_letter_20 rfl ?_
  refine ld_topi (y := nI (ld_b8 (f (ld_pl i)) (y.toBitVec.toNat % 8))) (ld_let _ (Nat.mod_lt _ (by decide))) ?_
  have hP9 := hP.sub (ws' := [ld_O h0 1 a0, ld_A a0 d0 f]) [0, 1] rfl
  have hD9 := hD.sub (ws' := [ld_O h0 1 a0, ld_A a0 d0 f]) [0, 1] (by decide) rfl
  have hK9 := hK.sub (tys' := [(d0, .long)]) [0] rfl
  exact W.iret (v := (nI (ld_b8 (f (ld_pl i)) (y.toBitVec.toNat % 8)))) hx hb hr (fun t ht hW => ⟨⟨(nI (ld_b8 (f (ld_pl i)) (y.toBitVec.toNat % 8))), (), rfl, rfl, by rw [ht]; exact hP9, va_K.moved hW.alike hK9, hD9⟩, hS.F ht⟩) hS.2.2 dX1_letter_21
set_option maxHeartbeats 4000000 in
set_option maxRecDepth 100000 in
/-- LongRowDeskModel.within -/
theorem metX1_within (l : Launch) (dC : Nat → ClassId) (dI : Nat → Nat → Nat) (sz : Nat) (h0 a0 : Nat) (d0 : ClassId) (f : Nat → Int64) (i j k : Int32) : Met l yX1_within (ws_ yX1_within cX1_within 10 (some .long)) ({ frames := 2, cells := 0, slots := 0, locals := 64 } : Room) (va_Pc [.ref h0, .int i, .int j, .int k] (fun U => ld_I dC dI sz [ld_O h0 1 a0, ld_A a0 d0 f] [(d0, .long)] U)) (va_Ql (fun (r : Int64) (_ : Unit) => r = ld_wi (f (ld_pl i)) (f (ld_pl j)) (f (ld_pl k))) (ld_B dC dI (va_A [ld_O h0 1 a0, ld_A a0 d0 f] sz) (fun (_ : Unit) => [ld_O h0 1 a0, ld_A a0 d0 f]) [(d0, .long)]) (va_A [ld_O h0 1 a0, ld_A a0 d0 f] sz)) 0 0 (va_A [ld_O h0 1 a0, ld_A a0 d0 f] sz) := by
  refine Met.ofW (cc := cX1_within) (maxL := 10) (ret := (some .long)) (by decide) rfl ?_
  intro p e s m args below meth c s₁ B hml hv
  obtain ⟨rfl, hsz, hP, hK, hD0⟩ := hv
  have hx := B.exec
  have hb := B.bytes
  have hr := B.returns
  have hts := atoms_spec (ws := (ws_ yX1_within cX1_within 10 (some .long))) B.pre
  have hts : ∀ w ∈ lw_all, w.before _ s = true := fun w h => hts w (List.mem_cons_of_mem _ h)
  have hown : s.vm.findClass RX1 = some m.cls := findClass_of_methodNamed B.named
  have hlocks := B.notSynchronized
  subst hsz
  have hD := hD0.self (sz := s.heap.size)
  generalize hAe : va_A [ld_O h0 1 a0, ld_A a0 d0 f] s.heap.size = A at hD ⊢
  have hA : ∀ q : Nat, s.heap.size ≤ q → A q := fun q h => by rw [← hAe]; exact Or.inr h
  have hS : va_S A s.heap s.heap [] := va_S.rf
  have hP : va_P (dC, dI) ld_Cl [ld_O h0 1 a0, ld_A a0 d0 f] s.heap := hP
  have hl := lv_entry ([.ref h0, .int i, .int j, .int k]) (n := 10) (Nat.le_of_ble_eq_true rfl)
  rw [lg_entry_eq]
  generalize (lg_sl ([.ref h0, .int i, .int j, .int k]) ++ List.replicate (10 - (lg_sl ([.ref h0, .int i, .int j, .int k])).length) Slot.unset).toArray = ls at hl ⊢
  have hl : lv_has ls 10 [(0, .ref h0), (1, .int i), (2, .int j), (3, .int k)] := hl
  refine lv_aload_n hx hb dX1_within_0 rfl (lv_at hl 0 rfl) ?_
  refine lv_iload_n hx hb dX1_within_1 rfl (lv_at hl 1 rfl) ?_
  have hPc := hP.sub (ws' := [ld_O h0 1 a0, ld_A a0 d0 f]) [0, 1] rfl
  have hDc := hD.sub (ws' := [ld_O h0 1 a0, ld_A a0 d0 f]) [0, 1] (by decide) rfl
  have hKc := hK.sub (tys' := [(d0, .long)]) [0] rfl
  have hFc := va_free (wc := [ld_O h0 1 a0, ld_A a0 d0 f]) hD hS hA [0, 1] rfl
  refine va_calll (va_runV (As := [.int i]) (rest := []) ⟨hx, hb, hml, hown, hts⟩ (metX1_get l dC dI s.heap.size h0 a0 d0 f i) (cwV 1 hts (lw_V q322 q285 q286 q6 q287) rfl rfl rfl (by decide +kernel) ⟨Nat.le_of_ble_eq_true rfl, Nat.le_of_ble_eq_true rfl⟩) ⟨fun a U g mk q => by obtain ⟨q0, q1, qP, qK, qD⟩ := q; exact ⟨q0, q1, qP, va_K.moved (u := U) (U := U.calling g mk a) (Vm.Alike.refl U.vm) qK, qD⟩, va_recv hK hP (ci := 1) (q0 := 0) rfl rfl, fun U hU hW => ⟨rfl, by rw [hU], by rw [hU]; exact hPc, va_K.moved hW.alike hKc, hDc.weaken (fun _ _ _ _ => trivial)⟩⟩ rfl rfl hl.1 rfl (lv_room (Nat.le_of_ble_eq_true rfl)) dX1_within_2 ⟨Nat.le_of_ble_eq_true rfl, Nat.le_of_ble_eq_true rfl⟩) hS (fun q _ h => hFc q h) hFc (fun r_70 u t H1 locs ht hvm hw hB hz1 hk1 hS => ?_)
  obtain ⟨hP1, hK1, hD1⟩ := hB
  rw [ht] at hP1
  have hK1 := va_K.moved hvm.symm hK1
  obtain ⟨hP, hD⟩ := va_join (wr := []) (w1 := [ld_O h0 1 a0, ld_A a0 d0 f]) hP hD [0, 1] [] rfl rfl (by decide) (by decide) hk1 hFc hP1 hD1
  have hK := (hK.sub (tys' := []) [] rfl).app hK1
  generalize H1 = H at hP hS ⊢
  have hP : va_P (dC, dI) ld_Cl [ld_O h0 1 a0, ld_A a0 d0 f] H := hP
  have hD : va_D A [ld_O h0 1 a0, ld_A a0 d0 f] := hD
  have hK : va_K (dC, dI) ld_Cl [(d0, .long)] s := hK
  have hw : r_70 = f (ld_pl i) := hw
  subst hw
  refine lv_lstore (lv' := [(4, .long (f (ld_pl i))), (0, .ref h0), (1, .int i), (2, .int j), (3, .int k)]) hx hb dX1_within_5 hl (by decide) rfl (fun ls hl => ?_)
  refine lv_aload_n hx hb dX1_within_7 rfl (lv_at hl 1 rfl) ?_
  refine lv_iload_n hx hb dX1_within_8 rfl (lv_at hl 3 rfl) ?_
  have hPc := hP.sub (ws' := [ld_O h0 1 a0, ld_A a0 d0 f]) [0, 1] rfl
  have hDc := hD.sub (ws' := [ld_O h0 1 a0, ld_A a0 d0 f]) [0, 1] (by decide) rfl
  have hKc := hK.sub (tys' := [(d0, .long)]) [0] rfl
  have hFc := va_free (wc := [ld_O h0 1 a0, ld_A a0 d0 f]) hD hS hA [0, 1] rfl
  refine va_calll (va_runV (As := [.int j]) (rest := []) ⟨hx, hb, hml, hown, hts⟩ (metX1_get l dC dI H.size h0 a0 d0 f j) (cwV 1 hts (lw_V q322 q285 q286 q6 q287) rfl rfl rfl (by decide +kernel) ⟨Nat.le_of_ble_eq_true rfl, Nat.le_of_ble_eq_true rfl⟩) ⟨fun a U g mk q => by obtain ⟨q0, q1, qP, qK, qD⟩ := q; exact ⟨q0, q1, qP, va_K.moved (u := U) (U := U.calling g mk a) (Vm.Alike.refl U.vm) qK, qD⟩, va_recv hK hP (ci := 1) (q0 := 0) rfl rfl, fun U hU hW => ⟨rfl, by rw [hU], by rw [hU]; exact hPc, va_K.moved hW.alike hKc, hDc.weaken (fun _ _ _ _ => trivial)⟩⟩ rfl rfl hl.1 rfl (lv_room (Nat.le_of_ble_eq_true rfl)) dX1_within_9 ⟨Nat.le_of_ble_eq_true rfl, Nat.le_of_ble_eq_true rfl⟩) hS (fun q _ h => hFc q h) hFc (fun r_71 u t H1 locs ht hvm hw hB hz1 hk1 hS => ?_)
  obtain ⟨hP1, hK1, hD1⟩ := hB
  rw [ht] at hP1
  have hK1 := va_K.moved hvm.symm hK1
  obtain ⟨hP, hD⟩ := va_join (wr := []) (w1 := [ld_O h0 1 a0, ld_A a0 d0 f]) hP hD [0, 1] [] rfl rfl (by decide) (by decide) hk1 hFc hP1 hD1
  have hK := (hK.sub (tys' := []) [] rfl).app hK1
  generalize H1 = H at hP hS ⊢
  have hP : va_P (dC, dI) ld_Cl [ld_O h0 1 a0, ld_A a0 d0 f] H := hP
  have hD : va_D A [ld_O h0 1 a0, ld_A a0 d0 f] := hD
  have hK : va_K (dC, dI) ld_Cl [(d0, .long)] s := hK
  have hw : r_71 = f (ld_pl j) := hw
  subst hw
  refine lv_aload_n hx hb dX1_within_12 rfl (lv_at hl 1 rfl) ?_
  refine lv_iload_n hx hb dX1_within_13 rfl (lv_at hl 4 rfl) ?_
  have hPc := hP.sub (ws' := [ld_O h0 1 a0, ld_A a0 d0 f]) [0, 1] rfl
  have hDc := hD.sub (ws' := [ld_O h0 1 a0, ld_A a0 d0 f]) [0, 1] (by decide) rfl
  have hKc := hK.sub (tys' := [(d0, .long)]) [0] rfl
  have hFc := va_free (wc := [ld_O h0 1 a0, ld_A a0 d0 f]) hD hS hA [0, 1] rfl
  refine va_calll (va_runV (As := [.int k]) (rest := [.long (f (ld_pl j))]) ⟨hx, hb, hml, hown, hts⟩ (metX1_get l dC dI H.size h0 a0 d0 f k) (cwV 1 hts (lw_V q322 q285 q286 q6 q287) rfl rfl rfl (by decide +kernel) ⟨Nat.le_of_ble_eq_true rfl, Nat.le_of_ble_eq_true rfl⟩) ⟨fun a U g mk q => by obtain ⟨q0, q1, qP, qK, qD⟩ := q; exact ⟨q0, q1, qP, va_K.moved (u := U) (U := U.calling g mk a) (Vm.Alike.refl U.vm) qK, qD⟩, va_recv hK hP (ci := 1) (q0 := 0) rfl rfl, fun U hU hW => ⟨rfl, by rw [hU], by rw [hU]; exact hPc, va_K.moved hW.alike hKc, hDc.weaken (fun _ _ _ _ => trivial)⟩⟩ rfl rfl hl.1 rfl (lv_room (Nat.le_of_ble_eq_true rfl)) dX1_within_14 ⟨Nat.le_of_ble_eq_true rfl, Nat.le_of_ble_eq_true rfl⟩) hS (fun q _ h => hFc q h) hFc (fun r_72 u t H1 locs ht hvm hw hB hz1 hk1 hS => ?_)
  obtain ⟨hP1, hK1, hD1⟩ := hB
  rw [ht] at hP1
  have hK1 := va_K.moved hvm.symm hK1
  obtain ⟨hP, hD⟩ := va_join (wr := []) (w1 := [ld_O h0 1 a0, ld_A a0 d0 f]) hP hD [0, 1] [] rfl rfl (by decide) (by decide) hk1 hFc hP1 hD1
  have hK := (hK.sub (tys' := []) [] rfl).app hK1
  generalize H1 = H at hP hS ⊢
  have hP : va_P (dC, dI) ld_Cl [ld_O h0 1 a0, ld_A a0 d0 f] H := hP
  have hD : va_D A [ld_O h0 1 a0, ld_A a0 d0 f] := hD
  have hK : va_K (dC, dI) ld_Cl [(d0, .long)] s := hK
  have hw : r_72 = f (ld_pl k) := hw
  subst hw
  refine va_mmin_long hx hb (by rw [hml]; exact hl.1.symm) hown (hts _ q328) (hts _ q260) (hts _ q15) (hts _ q261) (Nat.le_of_ble_eq_true rfl) (Nat.le_of_ble_eq_true rfl) (Nat.le_of_ble_eq_true rfl) (Nat.le_of_ble_eq_true rfl) dX1_within_17 ?_
  refine ld_topl (y := if f (ld_pl j) < f (ld_pl k) then f (ld_pl j) else f (ld_pl k)) (ld_wi_mn _ _) ?_
  refine lv_lstore (lv' := [(6, .long (if f (ld_pl j) < f (ld_pl k) then f (ld_pl j) else f (ld_pl k))), (4, .long (f (ld_pl i))), (0, .ref h0), (1, .int i), (2, .int j), (3, .int k)]) hx hb dX1_within_20 hl (by decide) rfl (fun ls hl => ?_)
  refine lv_aload_n hx hb dX1_within_22 rfl (lv_at hl 2 rfl) ?_
  refine lv_iload_n hx hb dX1_within_23 rfl (lv_at hl 4 rfl) ?_
  have hPc := hP.sub (ws' := [ld_O h0 1 a0, ld_A a0 d0 f]) [0, 1] rfl
  have hDc := hD.sub (ws' := [ld_O h0 1 a0, ld_A a0 d0 f]) [0, 1] (by decide) rfl
  have hKc := hK.sub (tys' := [(d0, .long)]) [0] rfl
  have hFc := va_free (wc := [ld_O h0 1 a0, ld_A a0 d0 f]) hD hS hA [0, 1] rfl
  refine va_calll (va_runV (As := [.int j]) (rest := []) ⟨hx, hb, hml, hown, hts⟩ (metX1_get l dC dI H.size h0 a0 d0 f j) (cwV 1 hts (lw_V q322 q285 q286 q6 q287) rfl rfl rfl (by decide +kernel) ⟨Nat.le_of_ble_eq_true rfl, Nat.le_of_ble_eq_true rfl⟩) ⟨fun a U g mk q => by obtain ⟨q0, q1, qP, qK, qD⟩ := q; exact ⟨q0, q1, qP, va_K.moved (u := U) (U := U.calling g mk a) (Vm.Alike.refl U.vm) qK, qD⟩, va_recv hK hP (ci := 1) (q0 := 0) rfl rfl, fun U hU hW => ⟨rfl, by rw [hU], by rw [hU]; exact hPc, va_K.moved hW.alike hKc, hDc.weaken (fun _ _ _ _ => trivial)⟩⟩ rfl rfl hl.1 rfl (lv_room (Nat.le_of_ble_eq_true rfl)) dX1_within_24 ⟨Nat.le_of_ble_eq_true rfl, Nat.le_of_ble_eq_true rfl⟩) hS (fun q _ h => hFc q h) hFc (fun r_73 u t H1 locs ht hvm hw hB hz1 hk1 hS => ?_)
  obtain ⟨hP1, hK1, hD1⟩ := hB
  rw [ht] at hP1
  have hK1 := va_K.moved hvm.symm hK1
  obtain ⟨hP, hD⟩ := va_join (wr := []) (w1 := [ld_O h0 1 a0, ld_A a0 d0 f]) hP hD [0, 1] [] rfl rfl (by decide) (by decide) hk1 hFc hP1 hD1
  have hK := (hK.sub (tys' := []) [] rfl).app hK1
  generalize H1 = H at hP hS ⊢
  have hP : va_P (dC, dI) ld_Cl [ld_O h0 1 a0, ld_A a0 d0 f] H := hP
  have hD : va_D A [ld_O h0 1 a0, ld_A a0 d0 f] := hD
  have hK : va_K (dC, dI) ld_Cl [(d0, .long)] s := hK
  have hw : r_73 = f (ld_pl j) := hw
  subst hw
  refine lv_aload_n hx hb dX1_within_27 rfl (lv_at hl 2 rfl) ?_
  refine lv_iload_n hx hb dX1_within_28 rfl (lv_at hl 5 rfl) ?_
  have hPc := hP.sub (ws' := [ld_O h0 1 a0, ld_A a0 d0 f]) [0, 1] rfl
  have hDc := hD.sub (ws' := [ld_O h0 1 a0, ld_A a0 d0 f]) [0, 1] (by decide) rfl
  have hKc := hK.sub (tys' := [(d0, .long)]) [0] rfl
  have hFc := va_free (wc := [ld_O h0 1 a0, ld_A a0 d0 f]) hD hS hA [0, 1] rfl
  refine va_calll (va_runV (As := [.int k]) (rest := [.long (f (ld_pl j))]) ⟨hx, hb, hml, hown, hts⟩ (metX1_get l dC dI H.size h0 a0 d0 f k) (cwV 1 hts (lw_V q322 q285 q286 q6 q287) rfl rfl rfl (by decide +kernel) ⟨Nat.le_of_ble_eq_true rfl, Nat.le_of_ble_eq_true rfl⟩) ⟨fun a U g mk q => by obtain ⟨q0, q1, qP, qK, qD⟩ := q; exact ⟨q0, q1, qP, va_K.moved (u := U) (U := U.calling g mk a) (Vm.Alike.refl U.vm) qK, qD⟩, va_recv hK hP (ci := 1) (q0 := 0) rfl rfl, fun U hU hW => ⟨rfl, by rw [hU], by rw [hU]; exact hPc, va_K.moved hW.alike hKc, hDc.weaken (fun _ _ _ _ => trivial)⟩⟩ rfl rfl hl.1 rfl (lv_room (Nat.le_of_ble_eq_true rfl)) dX1_within_29 ⟨Nat.le_of_ble_eq_true rfl, Nat.le_of_ble_eq_true rfl⟩) hS (fun q _ h => hFc q h) hFc (fun r_74 u t H1 locs ht hvm hw hB hz1 hk1 hS => ?_)
  obtain ⟨hP1, hK1, hD1⟩ := hB
  rw [ht] at hP1
  have hK1 := va_K.moved hvm.symm hK1
  obtain ⟨hP, hD⟩ := va_join (wr := []) (w1 := [ld_O h0 1 a0, ld_A a0 d0 f]) hP hD [0, 1] [] rfl rfl (by decide) (by decide) hk1 hFc hP1 hD1
  have hK := (hK.sub (tys' := []) [] rfl).app hK1
  generalize H1 = H at hP hS ⊢
  have hP : va_P (dC, dI) ld_Cl [ld_O h0 1 a0, ld_A a0 d0 f] H := hP
  have hD : va_D A [ld_O h0 1 a0, ld_A a0 d0 f] := hD
  have hK : va_K (dC, dI) ld_Cl [(d0, .long)] s := hK
  have hw : r_74 = f (ld_pl k) := hw
  subst hw
  refine va_mmax_long hx hb (by rw [hml]; exact hl.1.symm) hown (hts _ q329) (hts _ q257) (hts _ q15) (hts _ q258) (Nat.le_of_ble_eq_true rfl) (Nat.le_of_ble_eq_true rfl) (Nat.le_of_ble_eq_true rfl) (Nat.le_of_ble_eq_true rfl) dX1_within_32 ?_
  refine ld_topl (y := if f (ld_pl j) < f (ld_pl k) then f (ld_pl k) else f (ld_pl j)) (ld_wi_mx _ _) ?_
  refine lv_lstore (lv' := [(8, .long (if f (ld_pl j) < f (ld_pl k) then f (ld_pl k) else f (ld_pl j))), (6, .long (if f (ld_pl j) < f (ld_pl k) then f (ld_pl j) else f (ld_pl k))), (4, .long (f (ld_pl i))), (0, .ref h0), (1, .int i), (2, .int j), (3, .int k)]) hx hb dX1_within_35 hl (by decide) rfl (fun ls hl => ?_)
  refine lv_lload hx hb dX1_within_37 (lv_at hl 2 rfl) ?_
  refine lv_lload hx hb dX1_within_39 (lv_at hl 1 rfl) ?_
  refine W.lcmp hx hb dX1_within_41 ?_
  refine lv_if_ge (tgt := 50) hx hb dX1_within_42 (by decide) (fun c_75 => ?_) (fun c_75 => ?_)
  · have h5 : ¬ f (ld_pl i) < (if f (ld_pl j) < f (ld_pl k) then f (ld_pl j) else f (ld_pl k)) := Int64.not_lt.mpr ((lg_cmp_ge _ _).mp c_75)
    refine lv_lload hx hb dX1_within_50 (lv_at hl 2 rfl) ?_
    refine lv_lload hx hb dX1_within_52 (lv_at hl 0 rfl) ?_
    refine W.lcmp hx hb dX1_within_54 ?_
    refine lv_if_le (tgt := 63) hx hb dX1_within_55 (by decide) (fun c_76 => ?_) (fun c_76 => ?_)
    · have h6 : ¬ (if f (ld_pl j) < f (ld_pl k) then f (ld_pl k) else f (ld_pl j)) < f (ld_pl i) := Int64.not_lt.mpr ((lg_cmp_le _ _).mp c_76)
      refine lv_lload hx hb dX1_within_63 (lv_at hl 2 rfl) ?_
      have hP9 := hP.sub (ws' := [ld_O h0 1 a0, ld_A a0 d0 f]) [0, 1] rfl
      have hD9 := hD.sub (ws' := [ld_O h0 1 a0, ld_A a0 d0 f]) [0, 1] (by decide) rfl
      have hK9 := hK.sub (tys' := [(d0, .long)]) [0] rfl
      exact W.lret (v := (f (ld_pl i))) hx hb hr (fun t ht hW => ⟨⟨(f (ld_pl i)), (), rfl, (by unfold ld_wi; rw [if_neg h5, if_neg h6]), by rw [ht]; exact hP9, va_K.moved hW.alike hK9, hD9⟩, hS.F ht⟩) hS.2.2 dX1_within_65
    · have h6 : (if f (ld_pl j) < f (ld_pl k) then f (ld_pl k) else f (ld_pl j)) < f (ld_pl i) := Int64.not_le.mp (fun z => c_76 ((lg_cmp_le _ _).mpr z))
      refine lv_lload hx hb dX1_within_58 (lv_at hl 0 rfl) ?_
      refine lv_goto (tgt := 65) hx hb dX1_within_60 (by decide) ?_
      have hP9 := hP.sub (ws' := [ld_O h0 1 a0, ld_A a0 d0 f]) [0, 1] rfl
      have hD9 := hD.sub (ws' := [ld_O h0 1 a0, ld_A a0 d0 f]) [0, 1] (by decide) rfl
      have hK9 := hK.sub (tys' := [(d0, .long)]) [0] rfl
      exact W.lret (v := (if f (ld_pl j) < f (ld_pl k) then f (ld_pl k) else f (ld_pl j))) hx hb hr (fun t ht hW => ⟨⟨(if f (ld_pl j) < f (ld_pl k) then f (ld_pl k) else f (ld_pl j)), (), rfl, (by unfold ld_wi; rw [if_neg h5, if_pos h6]), by rw [ht]; exact hP9, va_K.moved hW.alike hK9, hD9⟩, hS.F ht⟩) hS.2.2 dX1_within_65
  · have h5 : f (ld_pl i) < (if f (ld_pl j) < f (ld_pl k) then f (ld_pl j) else f (ld_pl k)) := Int64.not_le.mp (fun z => c_75 ((lg_cmp_ge _ _).mpr z))
    refine lv_lload hx hb dX1_within_45 (lv_at hl 1 rfl) ?_
    refine lv_goto (tgt := 65) hx hb dX1_within_47 (by decide) ?_
    have hP9 := hP.sub (ws' := [ld_O h0 1 a0, ld_A a0 d0 f]) [0, 1] rfl
    have hD9 := hD.sub (ws' := [ld_O h0 1 a0, ld_A a0 d0 f]) [0, 1] (by decide) rfl
    have hK9 := hK.sub (tys' := [(d0, .long)]) [0] rfl
    exact W.lret (v := (if f (ld_pl j) < f (ld_pl k) then f (ld_pl j) else f (ld_pl k))) hx hb hr (fun t ht hW => ⟨⟨(if f (ld_pl j) < f (ld_pl k) then f (ld_pl j) else f (ld_pl k)), (), rfl, (by unfold ld_wi; rw [if_pos h5]), by rw [ht]; exact hP9, va_K.moved hW.alike hK9, hD9⟩, hS.F ht⟩) hS.2.2 dX1_within_65
end
section
set_option maxRecDepth 100000
/-! THE CLAIM OUT OF ONE WALK OF THE LAW'S BODY. Your part is whole_start (and what it stands on); all else here is the same for every law, but numbers. -/
def R_law : String := "LongRowDeskLaw"
def lw_P (b : Addr) (xs : List Int32) (args : Array Value) (s : State) : Prop := args = #[.ref b] ∧ s.IntsAt b xs ∧ xs.length ≤ 288 ∧ (Jvm.Cond.and given_1 narrow_1).before args s = true
def lw_Q (_ : Array Value) (s : State) (o : Outcome) (t : State) : Prop := o = .returned (some (.int 1)) ∧ Framed s o t [] 1200096 5501386
def lw_Z (below : List Frame) (a : Array Value) (s : State) : State → Prop := fun t => ∃ o, t.status = .running ∧ Ended t below o ∧ lw_Q a s o t
/-- the law's own end, with 1 on the stack, nothing written that was there before, its room as the claim has it -/
theorem lw_ret {p : Program} {l : Launch} {e : Env} {s : State} {m : MethodId} {below : List Frame} {meth : Method} {c : Code} {b : Nat} (hx : p.tables.exec = Jvm.exec) (hb : c.code = code) (hr : meth.sig.returnType = ret) (hlocks : meth.locks = false) {pc : Nat} {H : Heap} {ls : Array Slot} (hdg : decode code pc = .ok (.ireturn, 1)) : W p l e room_1 s m #[Value.ref b] below meth c H [] 1200096 5501386 (lw_Z below #[Value.ref b] s) (F0 m pc ls [.int 1]) := by
  intro T hT X
  obtain ⟨fs, hret, hrun, hended, hW, hframe⟩ := X.leave (v := some (.int 1)) (hlocks := hlocks) (fun h => by rw [hr] at h; cases h)
  have hmeth' : T.vm.method? m = some meth := X.method'
  refine ⟨T.setFrames fs, ?_, .returned (some (.int 1)), hrun, hended, rfl, ⟨_, rfl⟩, hW, hframe⟩
  jvm_step X.here [X.here.top, hx, hb, hdg, hmeth', hr, ret, narrow_b1]
  (try refine ⟨rfl, ?_⟩); (try refine ⟨rfl, ?_⟩)
  first | (intro acts; rw [hret _ acts rfl rfl rfl]) | rw [hret _ _ rfl rfl rfl]
  exact Steps.refl _
/-- what holds at the law's entry: the machine, the code, the tables' words (any of lw_tbl by 'hts w (by decide +kernel)'), the script of L ints xs at the cell b, what the Statement gives of the start (any of its parts by flat_of_before) -/
def lw_At (p : Program) (s : State) (m : MethodId) (meth : Method) (c : Code) (b L : Nat) (xs : Nat → Int32) : Prop :=
  p.tables.exec = Jvm.exec ∧ c.code = code ∧ meth.sig.returnType = ret ∧ c.maxLocals = 4 ∧ s.vm.findClass R_law = some m.cls ∧ (∀ w ∈ lw_tbl, w.before #[Value.ref b] s = true) ∧ va_X b L xs s s.heap ∧ b < s.heap.size ∧ meth.locks = false ∧ (Jvm.Cond.and given_1 narrow_1).before #[Value.ref b] s = true
end
section
/-! the law's cases 0 to 2 -/
set_option maxRecDepth 100000
set_option maxHeartbeats 4000000 in
set_option maxRecDepth 100000 in
/-- the law, case 0: set -/
theorem ld_case0 {p : Program} {l : Launch} {e : Env} {s : State} {m : MethodId} {below : List Frame} {meth : Method} {c : Code} {dC : Nat → ClassId} {dI : Nat → Nat → Nat} {b L : Nat} {xs : Nat → Int32} {qs h1 a1 h2 a2 : Nat} {d1 d2 : ClassId} (hL : L ≤ 288) (hx : p.tables.exec = Jvm.exec) (hb : c.code = code) (hml : c.maxLocals = 4) (hown : s.vm.findClass R_law = some m.cls) (hts : ∀ w ∈ lw_all, w.before #[Value.ref b] s = true) (hX : va_X b L xs s s.heap) (hbl : b < s.heap.size) (hZ : vk_R "Longs" 16 ld_tx qs s) (hK : va_K (dC, dI) ld_Cl [(d1, .long), (d2, .long)] s) {Z : State → Prop} (f g : Nat → Int64) (hfg : ∀ j, j < 12 → f j = g j) (i : Nat) (hi : i + 6 ≤ L) (cells slots : Nat) (hc : cells + 1 ≤ 1200096) (hs : slots + 12 ≤ 5501386) (H : Heap) (locs : List Loc) (hP : va_P (dC, dI) ld_Cl [ld_O h1 0 a1, ld_A a1 d1 f, ld_O h2 1 a2, ld_A a2 d2 g] H) (hD : va_D (fun q : Nat => s.heap.size ≤ q) [ld_O h1 0 a1, ld_A a1 d1 f, ld_O h2 1 a2, ld_A a2 d2 g]) (hS : va_S (fun q : Nat => s.heap.size ≤ q) s.heap H locs) (ls : Array Slot) (hl : lv_has ls 4 [(0, .ref b), (1, .ref h1), (2, .ref h2), (3, .int (nI i))]) (kk : ∀ (f g : Nat → Int64), (∀ j, j < 12 → f j = g j) → ∀ (H : Heap) (locs : List Loc), va_P (dC, dI) ld_Cl [ld_O h1 0 a1, ld_A a1 d1 f, ld_O h2 1 a2, ld_A a2 d2 g] H → va_D (fun q : Nat => s.heap.size ≤ q) [ld_O h1 0 a1, ld_A a1 d1 f, ld_O h2 1 a2, ld_A a2 d2 g] → va_S (fun q : Nat => s.heap.size ≤ q) s.heap H locs → ∀ (ls : Array Slot), lv_has ls 4 [(0, .ref b), (1, .ref h1), (2, .ref h2), (3, .int (nI i))] → W p l e room_1 s m #[Value.ref b] below meth c H locs (cells + 1) (slots + 12) Z (F0 m 426 ls [])) : W p l e room_1 s m #[Value.ref b] below meth c H locs (cells) (slots) Z (F0 m 92 ls []) := by
  have hA : ∀ q : Nat, s.heap.size ≤ q → (fun q : Nat => s.heap.size ≤ q) q := fun _ h => h
  have hbA : ¬ (fun q : Nat => s.heap.size ≤ q) b := Nat.not_le.mpr hbl
  refine lv_aload_n hx hb dL_law_92 rfl (lv_at hl 1 rfl) ?_
  refine lv_aload_n hx hb dL_law_93 rfl (lv_at hl 0 rfl) ?_
  refine lv_iload_n hx hb dL_law_94 rfl (lv_at hl 3 rfl) ?_
  refine lv_iconst (v := nI 1) hx hb dL_law_95 (by decide +kernel) ?_
  refine lv_iadd hx hb dL_law_96 ?_
  refine ld_topi (y := nI (i + 1)) (nI_add _ _) ?_
  refine ld_sld (i := i + 1) hx hb hX hbl hbA hS (by omega) (by omega) dL_law_97 ?_
  refine lv_aload_n hx hb dL_law_98 rfl (lv_at hl 0 rfl) ?_
  refine lv_iload_n hx hb dL_law_99 rfl (lv_at hl 3 rfl) ?_
  refine lv_iconst (v := nI 2) hx hb dL_law_100 (by decide +kernel) ?_
  refine lv_iadd hx hb dL_law_101 ?_
  refine ld_topi (y := nI (i + 2)) (nI_add _ _) ?_
  refine ld_sld (i := i + 2) hx hb hX hbl hbA hS (by omega) (by omega) dL_law_102 ?_
  refine lv_aload_n hx hb dL_law_103 rfl (lv_at hl 0 rfl) ?_
  refine lv_iload_n hx hb dL_law_104 rfl (lv_at hl 3 rfl) ?_
  refine lv_iconst (v := nI 3) hx hb dL_law_105 (by decide +kernel) ?_
  refine lv_iadd hx hb dL_law_106 ?_
  refine ld_topi (y := nI (i + 3)) (nI_add _ _) ?_
  refine ld_sld (i := i + 3) hx hb hX hbl hbA hS (by omega) (by omega) dL_law_107 ?_
  have hPc := hP.sub (ws' := [ld_O h1 0 a1, ld_A a1 d1 f]) [0, 1] rfl
  have hDc := hD.sub (ws' := [ld_O h1 0 a1, ld_A a1 d1 f]) [0, 1] (by decide) rfl
  have hKc := hK.sub (tys' := [(d1, .long)]) [0] rfl
  have hFc := va_free (wc := [ld_O h1 0 a1, ld_A a1 d1 f]) hD hS hA [0, 1] rfl
  refine va_callv (va_runV (As := [.int (xs (i + 1)), .int (xs (i + 2)), .int (xs (i + 3))]) (rest := []) ⟨hx, hb, hml, hown, hts⟩ (metX0_set l dC dI H.size h1 a1 d1 f (xs (i + 1)) (xs (i + 2)) (xs (i + 3))) (cwV 3 hts (lw_V q29 q30 q31 q5 q32) rfl rfl rfl (by decide +kernel) ⟨Nat.le_of_ble_eq_true rfl, Nat.le_of_ble_eq_true rfl⟩) ⟨fun a U g mk q => by obtain ⟨q0, q1, qP, qK, qD⟩ := q; exact ⟨q0, q1, qP, va_K.moved (u := U) (U := U.calling g mk a) (Vm.Alike.refl U.vm) qK, qD⟩, va_recv hK hP (ci := 0) (q0 := 0) rfl rfl, fun U hU hW => ⟨rfl, by rw [hU], by rw [hU]; exact hPc, va_K.moved hW.alike hKc, hDc.weaken (fun _ _ _ _ => trivial)⟩⟩ rfl rfl hl.1 rfl (lv_room (Nat.le_of_ble_eq_true rfl)) dL_law_108 ⟨by show cells + 0 ≤ 1200096; omega, by show slots + 0 ≤ 5501386; omega⟩) hS (fun q _ h => hFc q h) hFc (fun f1 t H1 locs ht hvm hw1 hB hz1 hk1 hS => ?_)
  obtain ⟨hP1, hK1, hD1⟩ := hB
  rw [ht] at hP1
  have hK1 := va_K.moved hvm.symm hK1
  obtain ⟨hP, hD⟩ := va_join (wr := [ld_O h2 1 a2, ld_A a2 d2 g]) (w1 := [ld_O h1 0 a1, ld_A a1 d1 f1]) hP hD [0, 1] [2, 3] rfl rfl (by decide) (by decide) hk1 hFc hP1 hD1
  have hK := (hK.sub (tys' := [(d2, .long)]) [1] rfl).app hK1
  generalize H1 = H at hP hS ⊢
  have hP := hP.sub (ws' := [ld_O h1 0 a1, ld_A a1 d1 f1, ld_O h2 1 a2, ld_A a2 d2 g]) [2, 3, 0, 1] rfl
  have hD := hD.sub (ws' := [ld_O h1 0 a1, ld_A a1 d1 f1, ld_O h2 1 a2, ld_A a2 d2 g]) [2, 3, 0, 1] (by decide) rfl
  have hK := hK.sub (tys' := [(d1, .long), (d2, .long)]) [1, 0] rfl
  have hP : va_P (dC, dI) ld_Cl [ld_O h1 0 a1, ld_A a1 d1 f1, ld_O h2 1 a2, ld_A a2 d2 g] H := hP
  have hD : va_D (fun q : Nat => s.heap.size ≤ q) [ld_O h1 0 a1, ld_A a1 d1 f1, ld_O h2 1 a2, ld_A a2 d2 g] := hD
  have hK : va_K (dC, dI) ld_Cl [(d1, .long), (d2, .long)] s := hK
  have hw1 : f1 = vp_updL f (ld_pl (xs (i + 1))) (ld_wd (xs (i + 2)) (xs (i + 3))) := hw1
  refine lv_aload_n hx hb dL_law_111 rfl (lv_at hl 2 rfl) ?_
  refine lv_aload_n hx hb dL_law_112 rfl (lv_at hl 0 rfl) ?_
  refine lv_iload_n hx hb dL_law_113 rfl (lv_at hl 3 rfl) ?_
  refine lv_iconst (v := nI 1) hx hb dL_law_114 (by decide +kernel) ?_
  refine lv_iadd hx hb dL_law_115 ?_
  refine ld_topi (y := nI (i + 1)) (nI_add _ _) ?_
  refine ld_sld (i := i + 1) hx hb hX hbl hbA hS (by omega) (by omega) dL_law_116 ?_
  refine lv_aload_n hx hb dL_law_117 rfl (lv_at hl 0 rfl) ?_
  refine lv_iload_n hx hb dL_law_118 rfl (lv_at hl 3 rfl) ?_
  refine lv_iconst (v := nI 2) hx hb dL_law_119 (by decide +kernel) ?_
  refine lv_iadd hx hb dL_law_120 ?_
  refine ld_topi (y := nI (i + 2)) (nI_add _ _) ?_
  refine ld_sld (i := i + 2) hx hb hX hbl hbA hS (by omega) (by omega) dL_law_121 ?_
  refine lv_aload_n hx hb dL_law_122 rfl (lv_at hl 0 rfl) ?_
  refine lv_iload_n hx hb dL_law_123 rfl (lv_at hl 3 rfl) ?_
  refine lv_iconst (v := nI 3) hx hb dL_law_124 (by decide +kernel) ?_
  refine lv_iadd hx hb dL_law_125 ?_
  refine ld_topi (y := nI (i + 3)) (nI_add _ _) ?_
  refine ld_sld (i := i + 3) hx hb hX hbl hbA hS (by omega) (by omega) dL_law_126 ?_
  have hPc := hP.sub (ws' := [ld_O h2 1 a2, ld_A a2 d2 g]) [2, 3] rfl
  have hDc := hD.sub (ws' := [ld_O h2 1 a2, ld_A a2 d2 g]) [2, 3] (by decide) rfl
  have hKc := hK.sub (tys' := [(d2, .long)]) [1] rfl
  have hFc := va_free (wc := [ld_O h2 1 a2, ld_A a2 d2 g]) hD hS hA [2, 3] rfl
  refine va_callv (va_runV (As := [.int (xs (i + 1)), .int (xs (i + 2)), .int (xs (i + 3))]) (rest := []) ⟨hx, hb, hml, hown, hts⟩ (metX1_set l dC dI H.size h2 a2 d2 g (xs (i + 1)) (xs (i + 2)) (xs (i + 3))) (cwV 3 hts (lw_V q272 q273 q274 q6 q275) rfl rfl rfl (by decide +kernel) ⟨Nat.le_of_ble_eq_true rfl, Nat.le_of_ble_eq_true rfl⟩) ⟨fun a U g mk q => by obtain ⟨q0, q1, qP, qK, qD⟩ := q; exact ⟨q0, q1, qP, va_K.moved (u := U) (U := U.calling g mk a) (Vm.Alike.refl U.vm) qK, qD⟩, va_recv hK hP (ci := 1) (q0 := 2) rfl rfl, fun U hU hW => ⟨rfl, by rw [hU], by rw [hU]; exact hPc, va_K.moved hW.alike hKc, hDc.weaken (fun _ _ _ _ => trivial)⟩⟩ rfl rfl hl.1 rfl (lv_room (Nat.le_of_ble_eq_true rfl)) dL_law_127 ⟨by show cells + 0 + 0 ≤ 1200096; omega, by show slots + 0 + 0 ≤ 5501386; omega⟩) hS (fun q _ h => hFc q h) hFc (fun g1 t H1 locs ht hvm hw2 hB hz1 hk1 hS => ?_)
  obtain ⟨hP1, hK1, hD1⟩ := hB
  rw [ht] at hP1
  have hK1 := va_K.moved hvm.symm hK1
  obtain ⟨hP, hD⟩ := va_join (wr := [ld_O h1 0 a1, ld_A a1 d1 f1]) (w1 := [ld_O h2 1 a2, ld_A a2 d2 g1]) hP hD [2, 3] [0, 1] rfl rfl (by decide) (by decide) hk1 hFc hP1 hD1
  have hK := (hK.sub (tys' := [(d1, .long)]) [0] rfl).app hK1
  generalize H1 = H at hP hS ⊢
  have hP : va_P (dC, dI) ld_Cl [ld_O h1 0 a1, ld_A a1 d1 f1, ld_O h2 1 a2, ld_A a2 d2 g1] H := hP
  have hD : va_D (fun q : Nat => s.heap.size ≤ q) [ld_O h1 0 a1, ld_A a1 d1 f1, ld_O h2 1 a2, ld_A a2 d2 g1] := hD
  have hK : va_K (dC, dI) ld_Cl [(d1, .long), (d2, .long)] s := hK
  have hw2 : g1 = vp_updL g (ld_pl (xs (i + 1))) (ld_wd (xs (i + 2)) (xs (i + 3))) := hw2
  refine lv_goto (tgt := 426) hx hb dL_law_130 (by decide) ?_
  refine W.widen (k := cells + 1) (n := slots + 12) (by omega) (by omega) ?_
  exact kk f1 g1 (by intro j hj; rw [hw1, hw2]; exact ld_up_cong hfg j hj) _ _ hP hD hS ls hl
set_option maxHeartbeats 4000000 in
set_option maxRecDepth 100000 in
/-- the law, case 1: get -/
theorem ld_case1 {p : Program} {l : Launch} {e : Env} {s : State} {m : MethodId} {below : List Frame} {meth : Method} {c : Code} {dC : Nat → ClassId} {dI : Nat → Nat → Nat} {b L : Nat} {xs : Nat → Int32} {qs h1 a1 h2 a2 : Nat} {d1 d2 : ClassId} (hL : L ≤ 288) (hx : p.tables.exec = Jvm.exec) (hb : c.code = code) (hml : c.maxLocals = 4) (hown : s.vm.findClass R_law = some m.cls) (hts : ∀ w ∈ lw_all, w.before #[Value.ref b] s = true) (hX : va_X b L xs s s.heap) (hbl : b < s.heap.size) (hZ : vk_R "Longs" 16 ld_tx qs s) (hK : va_K (dC, dI) ld_Cl [(d1, .long), (d2, .long)] s) {Z : State → Prop} (f g : Nat → Int64) (hfg : ∀ j, j < 12 → f j = g j) (i : Nat) (hi : i + 6 ≤ L) (cells slots : Nat) (hc : cells + 1 ≤ 1200096) (hs : slots + 12 ≤ 5501386) (H : Heap) (locs : List Loc) (hP : va_P (dC, dI) ld_Cl [ld_O h1 0 a1, ld_A a1 d1 f, ld_O h2 1 a2, ld_A a2 d2 g] H) (hD : va_D (fun q : Nat => s.heap.size ≤ q) [ld_O h1 0 a1, ld_A a1 d1 f, ld_O h2 1 a2, ld_A a2 d2 g]) (hS : va_S (fun q : Nat => s.heap.size ≤ q) s.heap H locs) (ls : Array Slot) (hl : lv_has ls 4 [(0, .ref b), (1, .ref h1), (2, .ref h2), (3, .int (nI i))]) (kk : ∀ (f g : Nat → Int64), (∀ j, j < 12 → f j = g j) → ∀ (H : Heap) (locs : List Loc), va_P (dC, dI) ld_Cl [ld_O h1 0 a1, ld_A a1 d1 f, ld_O h2 1 a2, ld_A a2 d2 g] H → va_D (fun q : Nat => s.heap.size ≤ q) [ld_O h1 0 a1, ld_A a1 d1 f, ld_O h2 1 a2, ld_A a2 d2 g] → va_S (fun q : Nat => s.heap.size ≤ q) s.heap H locs → ∀ (ls : Array Slot), lv_has ls 4 [(0, .ref b), (1, .ref h1), (2, .ref h2), (3, .int (nI i))] → W p l e room_1 s m #[Value.ref b] below meth c H locs (cells + 1) (slots + 12) Z (F0 m 426 ls [])) : W p l e room_1 s m #[Value.ref b] below meth c H locs (cells) (slots) Z (F0 m 133 ls []) := by
  have hA : ∀ q : Nat, s.heap.size ≤ q → (fun q : Nat => s.heap.size ≤ q) q := fun _ h => h
  have hbA : ¬ (fun q : Nat => s.heap.size ≤ q) b := Nat.not_le.mpr hbl
  refine lv_aload_n hx hb dL_law_133 rfl (lv_at hl 1 rfl) ?_
  refine lv_aload_n hx hb dL_law_134 rfl (lv_at hl 0 rfl) ?_
  refine lv_iload_n hx hb dL_law_135 rfl (lv_at hl 3 rfl) ?_
  refine lv_iconst (v := nI 1) hx hb dL_law_136 (by decide +kernel) ?_
  refine lv_iadd hx hb dL_law_137 ?_
  refine ld_topi (y := nI (i + 1)) (nI_add _ _) ?_
  refine ld_sld (i := i + 1) hx hb hX hbl hbA hS (by omega) (by omega) dL_law_138 ?_
  have hPc := hP.sub (ws' := [ld_O h1 0 a1, ld_A a1 d1 f]) [0, 1] rfl
  have hDc := hD.sub (ws' := [ld_O h1 0 a1, ld_A a1 d1 f]) [0, 1] (by decide) rfl
  have hKc := hK.sub (tys' := [(d1, .long)]) [0] rfl
  have hFc := va_free (wc := [ld_O h1 0 a1, ld_A a1 d1 f]) hD hS hA [0, 1] rfl
  refine va_calll (va_runV (As := [.int (xs (i + 1))]) (rest := []) ⟨hx, hb, hml, hown, hts⟩ (metX0_get l dC dI H.size h1 a1 d1 f (xs (i + 1))) (cwV 1 hts (lw_V q38 q39 q40 q5 q41) rfl rfl rfl (by decide +kernel) ⟨Nat.le_of_ble_eq_true rfl, Nat.le_of_ble_eq_true rfl⟩) ⟨fun a U g mk q => by obtain ⟨q0, q1, qP, qK, qD⟩ := q; exact ⟨q0, q1, qP, va_K.moved (u := U) (U := U.calling g mk a) (Vm.Alike.refl U.vm) qK, qD⟩, va_recv hK hP (ci := 0) (q0 := 0) rfl rfl, fun U hU hW => ⟨rfl, by rw [hU], by rw [hU]; exact hPc, va_K.moved hW.alike hKc, hDc.weaken (fun _ _ _ _ => trivial)⟩⟩ rfl rfl hl.1 rfl (lv_room (Nat.le_of_ble_eq_true rfl)) dL_law_139 ⟨by show cells + 0 ≤ 1200096; omega, by show slots + 0 ≤ 5501386; omega⟩) hS (fun q _ h => hFc q h) hFc (fun r1 u t H1 locs ht hvm hw1 hB hz1 hk1 hS => ?_)
  obtain ⟨hP1, hK1, hD1⟩ := hB
  rw [ht] at hP1
  have hK1 := va_K.moved hvm.symm hK1
  obtain ⟨hP, hD⟩ := va_join (wr := [ld_O h2 1 a2, ld_A a2 d2 g]) (w1 := [ld_O h1 0 a1, ld_A a1 d1 f]) hP hD [0, 1] [2, 3] rfl rfl (by decide) (by decide) hk1 hFc hP1 hD1
  have hK := (hK.sub (tys' := [(d2, .long)]) [1] rfl).app hK1
  generalize H1 = H at hP hS ⊢
  have hP := hP.sub (ws' := [ld_O h1 0 a1, ld_A a1 d1 f, ld_O h2 1 a2, ld_A a2 d2 g]) [2, 3, 0, 1] rfl
  have hD := hD.sub (ws' := [ld_O h1 0 a1, ld_A a1 d1 f, ld_O h2 1 a2, ld_A a2 d2 g]) [2, 3, 0, 1] (by decide) rfl
  have hK := hK.sub (tys' := [(d1, .long), (d2, .long)]) [1, 0] rfl
  have hP : va_P (dC, dI) ld_Cl [ld_O h1 0 a1, ld_A a1 d1 f, ld_O h2 1 a2, ld_A a2 d2 g] H := hP
  have hD : va_D (fun q : Nat => s.heap.size ≤ q) [ld_O h1 0 a1, ld_A a1 d1 f, ld_O h2 1 a2, ld_A a2 d2 g] := hD
  have hK : va_K (dC, dI) ld_Cl [(d1, .long), (d2, .long)] s := hK
  have hw1 : r1 = f (ld_pl (xs (i + 1))) := hw1
  refine lv_aload_n hx hb dL_law_142 rfl (lv_at hl 2 rfl) ?_
  refine lv_aload_n hx hb dL_law_143 rfl (lv_at hl 0 rfl) ?_
  refine lv_iload_n hx hb dL_law_144 rfl (lv_at hl 3 rfl) ?_
  refine lv_iconst (v := nI 1) hx hb dL_law_145 (by decide +kernel) ?_
  refine lv_iadd hx hb dL_law_146 ?_
  refine ld_topi (y := nI (i + 1)) (nI_add _ _) ?_
  refine ld_sld (i := i + 1) hx hb hX hbl hbA hS (by omega) (by omega) dL_law_147 ?_
  have hPc := hP.sub (ws' := [ld_O h2 1 a2, ld_A a2 d2 g]) [2, 3] rfl
  have hDc := hD.sub (ws' := [ld_O h2 1 a2, ld_A a2 d2 g]) [2, 3] (by decide) rfl
  have hKc := hK.sub (tys' := [(d2, .long)]) [1] rfl
  have hFc := va_free (wc := [ld_O h2 1 a2, ld_A a2 d2 g]) hD hS hA [2, 3] rfl
  refine va_calll (va_runV (As := [.int (xs (i + 1))]) (rest := [.long r1]) ⟨hx, hb, hml, hown, hts⟩ (metX1_get l dC dI H.size h2 a2 d2 g (xs (i + 1))) (cwV 1 hts (lw_V q284 q285 q286 q6 q287) rfl rfl rfl (by decide +kernel) ⟨Nat.le_of_ble_eq_true rfl, Nat.le_of_ble_eq_true rfl⟩) ⟨fun a U g mk q => by obtain ⟨q0, q1, qP, qK, qD⟩ := q; exact ⟨q0, q1, qP, va_K.moved (u := U) (U := U.calling g mk a) (Vm.Alike.refl U.vm) qK, qD⟩, va_recv hK hP (ci := 1) (q0 := 2) rfl rfl, fun U hU hW => ⟨rfl, by rw [hU], by rw [hU]; exact hPc, va_K.moved hW.alike hKc, hDc.weaken (fun _ _ _ _ => trivial)⟩⟩ rfl rfl hl.1 rfl (lv_room (Nat.le_of_ble_eq_true rfl)) dL_law_148 ⟨by show cells + 0 + 0 ≤ 1200096; omega, by show slots + 0 + 0 ≤ 5501386; omega⟩) hS (fun q _ h => hFc q h) hFc (fun r2 u t H1 locs ht hvm hw2 hB hz1 hk1 hS => ?_)
  obtain ⟨hP1, hK1, hD1⟩ := hB
  rw [ht] at hP1
  have hK1 := va_K.moved hvm.symm hK1
  obtain ⟨hP, hD⟩ := va_join (wr := [ld_O h1 0 a1, ld_A a1 d1 f]) (w1 := [ld_O h2 1 a2, ld_A a2 d2 g]) hP hD [2, 3] [0, 1] rfl rfl (by decide) (by decide) hk1 hFc hP1 hD1
  have hK := (hK.sub (tys' := [(d1, .long)]) [0] rfl).app hK1
  generalize H1 = H at hP hS ⊢
  have hP : va_P (dC, dI) ld_Cl [ld_O h1 0 a1, ld_A a1 d1 f, ld_O h2 1 a2, ld_A a2 d2 g] H := hP
  have hD : va_D (fun q : Nat => s.heap.size ≤ q) [ld_O h1 0 a1, ld_A a1 d1 f, ld_O h2 1 a2, ld_A a2 d2 g] := hD
  have hK : va_K (dC, dI) ld_Cl [(d1, .long), (d2, .long)] s := hK
  have hw2 : r2 = g (ld_pl (xs (i + 1))) := hw2
  have heq : r1 = r2 := hw1.trans ((hfg _ (ld_pl_lt _)).trans hw2.symm)
  refine W.lcmp hx hb dL_law_151 ?_
  refine lv_if_eq (tgt := 426) hx hb dL_law_152 (by decide) (fun c_1 => ?_) (fun c_1 => ?_)
  · refine W.widen (k := cells + 1) (n := slots + 12) (by omega) (by omega) ?_
    exact kk f g hfg _ _ hP hD hS ls hl
  · exact absurd (ld_ne_cmp heq) c_1
set_option maxHeartbeats 4000000 in
set_option maxRecDepth 100000 in
/-- the law, case 2: reverse -/
theorem ld_case2 {p : Program} {l : Launch} {e : Env} {s : State} {m : MethodId} {below : List Frame} {meth : Method} {c : Code} {dC : Nat → ClassId} {dI : Nat → Nat → Nat} {b L : Nat} {xs : Nat → Int32} {qs h1 a1 h2 a2 : Nat} {d1 d2 : ClassId} (hL : L ≤ 288) (hx : p.tables.exec = Jvm.exec) (hb : c.code = code) (hml : c.maxLocals = 4) (hown : s.vm.findClass R_law = some m.cls) (hts : ∀ w ∈ lw_all, w.before #[Value.ref b] s = true) (hX : va_X b L xs s s.heap) (hbl : b < s.heap.size) (hZ : vk_R "Longs" 16 ld_tx qs s) (hK : va_K (dC, dI) ld_Cl [(d1, .long), (d2, .long)] s) {Z : State → Prop} (f g : Nat → Int64) (hfg : ∀ j, j < 12 → f j = g j) (i : Nat) (hi : i + 6 ≤ L) (cells slots : Nat) (hc : cells + 1 ≤ 1200096) (hs : slots + 12 ≤ 5501386) (H : Heap) (locs : List Loc) (hP : va_P (dC, dI) ld_Cl [ld_O h1 0 a1, ld_A a1 d1 f, ld_O h2 1 a2, ld_A a2 d2 g] H) (hD : va_D (fun q : Nat => s.heap.size ≤ q) [ld_O h1 0 a1, ld_A a1 d1 f, ld_O h2 1 a2, ld_A a2 d2 g]) (hS : va_S (fun q : Nat => s.heap.size ≤ q) s.heap H locs) (ls : Array Slot) (hl : lv_has ls 4 [(0, .ref b), (1, .ref h1), (2, .ref h2), (3, .int (nI i))]) (kk : ∀ (f g : Nat → Int64), (∀ j, j < 12 → f j = g j) → ∀ (H : Heap) (locs : List Loc), va_P (dC, dI) ld_Cl [ld_O h1 0 a1, ld_A a1 d1 f, ld_O h2 1 a2, ld_A a2 d2 g] H → va_D (fun q : Nat => s.heap.size ≤ q) [ld_O h1 0 a1, ld_A a1 d1 f, ld_O h2 1 a2, ld_A a2 d2 g] → va_S (fun q : Nat => s.heap.size ≤ q) s.heap H locs → ∀ (ls : Array Slot), lv_has ls 4 [(0, .ref b), (1, .ref h1), (2, .ref h2), (3, .int (nI i))] → W p l e room_1 s m #[Value.ref b] below meth c H locs (cells + 1) (slots + 12) Z (F0 m 426 ls [])) : W p l e room_1 s m #[Value.ref b] below meth c H locs (cells) (slots) Z (F0 m 157 ls []) := by
  have hA : ∀ q : Nat, s.heap.size ≤ q → (fun q : Nat => s.heap.size ≤ q) q := fun _ h => h
  have hbA : ¬ (fun q : Nat => s.heap.size ≤ q) b := Nat.not_le.mpr hbl
  refine lv_aload_n hx hb dL_law_157 rfl (lv_at hl 1 rfl) ?_
  refine lv_aload_n hx hb dL_law_158 rfl (lv_at hl 0 rfl) ?_
  refine lv_iload_n hx hb dL_law_159 rfl (lv_at hl 3 rfl) ?_
  refine lv_iconst (v := nI 1) hx hb dL_law_160 (by decide +kernel) ?_
  refine lv_iadd hx hb dL_law_161 ?_
  refine ld_topi (y := nI (i + 1)) (nI_add _ _) ?_
  refine ld_sld (i := i + 1) hx hb hX hbl hbA hS (by omega) (by omega) dL_law_162 ?_
  refine lv_aload_n hx hb dL_law_163 rfl (lv_at hl 0 rfl) ?_
  refine lv_iload_n hx hb dL_law_164 rfl (lv_at hl 3 rfl) ?_
  refine lv_iconst (v := nI 2) hx hb dL_law_165 (by decide +kernel) ?_
  refine lv_iadd hx hb dL_law_166 ?_
  refine ld_topi (y := nI (i + 2)) (nI_add _ _) ?_
  refine ld_sld (i := i + 2) hx hb hX hbl hbA hS (by omega) (by omega) dL_law_167 ?_
  have hPc := hP.sub (ws' := [ld_O h1 0 a1, ld_A a1 d1 f]) [0, 1] rfl
  have hDc := hD.sub (ws' := [ld_O h1 0 a1, ld_A a1 d1 f]) [0, 1] (by decide) rfl
  have hKc := hK.sub (tys' := [(d1, .long)]) [0] rfl
  have hFc := va_free (wc := [ld_O h1 0 a1, ld_A a1 d1 f]) hD hS hA [0, 1] rfl
  refine va_callv (va_runV (As := [.int (xs (i + 1)), .int (xs (i + 2))]) (rest := []) ⟨hx, hb, hml, hown, hts⟩ (metX0_reverse l dC dI H.size h1 a1 d1 f (xs (i + 1)) (xs (i + 2))) (cwV 2 hts (lw_V q42 q43 q44 q5 q45) rfl rfl rfl (by decide +kernel) ⟨Nat.le_of_ble_eq_true rfl, Nat.le_of_ble_eq_true rfl⟩) ⟨fun a U g mk q => by obtain ⟨q0, q1, qP, qK, qD⟩ := q; exact ⟨q0, q1, qP, va_K.moved (u := U) (U := U.calling g mk a) (Vm.Alike.refl U.vm) qK, qD⟩, va_recv hK hP (ci := 0) (q0 := 0) rfl rfl, fun U hU hW => ⟨rfl, by rw [hU], by rw [hU]; exact hPc, va_K.moved hW.alike hKc, hDc.weaken (fun _ _ _ _ => trivial)⟩⟩ rfl rfl hl.1 rfl (lv_room (Nat.le_of_ble_eq_true rfl)) dL_law_168 ⟨by show cells + 0 ≤ 1200096; omega, by show slots + 0 ≤ 5501386; omega⟩) hS (fun q _ h => hFc q h) hFc (fun f1 t H1 locs ht hvm hw1 hB hz1 hk1 hS => ?_)
  obtain ⟨hP1, hK1, hD1⟩ := hB
  rw [ht] at hP1
  have hK1 := va_K.moved hvm.symm hK1
  obtain ⟨hP, hD⟩ := va_join (wr := [ld_O h2 1 a2, ld_A a2 d2 g]) (w1 := [ld_O h1 0 a1, ld_A a1 d1 f1]) hP hD [0, 1] [2, 3] rfl rfl (by decide) (by decide) hk1 hFc hP1 hD1
  have hK := (hK.sub (tys' := [(d2, .long)]) [1] rfl).app hK1
  generalize H1 = H at hP hS ⊢
  have hP := hP.sub (ws' := [ld_O h1 0 a1, ld_A a1 d1 f1, ld_O h2 1 a2, ld_A a2 d2 g]) [2, 3, 0, 1] rfl
  have hD := hD.sub (ws' := [ld_O h1 0 a1, ld_A a1 d1 f1, ld_O h2 1 a2, ld_A a2 d2 g]) [2, 3, 0, 1] (by decide) rfl
  have hK := hK.sub (tys' := [(d1, .long), (d2, .long)]) [1, 0] rfl
  have hP : va_P (dC, dI) ld_Cl [ld_O h1 0 a1, ld_A a1 d1 f1, ld_O h2 1 a2, ld_A a2 d2 g] H := hP
  have hD : va_D (fun q : Nat => s.heap.size ≤ q) [ld_O h1 0 a1, ld_A a1 d1 f1, ld_O h2 1 a2, ld_A a2 d2 g] := hD
  have hK : va_K (dC, dI) ld_Cl [(d1, .long), (d2, .long)] s := hK
  have hw1 : ∀ j, j < 12 → f1 j = ld_rv f (ld_fr (xs (i + 1))) (ld_tk (ld_fr (xs (i + 1))) (xs (i + 2))) j := hw1
  refine lv_aload_n hx hb dL_law_171 rfl (lv_at hl 2 rfl) ?_
  refine lv_aload_n hx hb dL_law_172 rfl (lv_at hl 0 rfl) ?_
  refine lv_iload_n hx hb dL_law_173 rfl (lv_at hl 3 rfl) ?_
  refine lv_iconst (v := nI 1) hx hb dL_law_174 (by decide +kernel) ?_
  refine lv_iadd hx hb dL_law_175 ?_
  refine ld_topi (y := nI (i + 1)) (nI_add _ _) ?_
  refine ld_sld (i := i + 1) hx hb hX hbl hbA hS (by omega) (by omega) dL_law_176 ?_
  refine lv_aload_n hx hb dL_law_177 rfl (lv_at hl 0 rfl) ?_
  refine lv_iload_n hx hb dL_law_178 rfl (lv_at hl 3 rfl) ?_
  refine lv_iconst (v := nI 2) hx hb dL_law_179 (by decide +kernel) ?_
  refine lv_iadd hx hb dL_law_180 ?_
  refine ld_topi (y := nI (i + 2)) (nI_add _ _) ?_
  refine ld_sld (i := i + 2) hx hb hX hbl hbA hS (by omega) (by omega) dL_law_181 ?_
  have hPc := hP.sub (ws' := [ld_O h2 1 a2, ld_A a2 d2 g]) [2, 3] rfl
  have hDc := hD.sub (ws' := [ld_O h2 1 a2, ld_A a2 d2 g]) [2, 3] (by decide) rfl
  have hKc := hK.sub (tys' := [(d2, .long)]) [1] rfl
  have hFc := va_free (wc := [ld_O h2 1 a2, ld_A a2 d2 g]) hD hS hA [2, 3] rfl
  refine va_callv (va_runV (As := [.int (xs (i + 1)), .int (xs (i + 2))]) (rest := []) ⟨hx, hb, hml, hown, hts⟩ (metX1_reverse l dC dI H.size h2 a2 d2 g (xs (i + 1)) (xs (i + 2))) (cwV 2 hts (lw_V q288 q289 q290 q6 q291) rfl rfl rfl (by decide +kernel) ⟨Nat.le_of_ble_eq_true rfl, Nat.le_of_ble_eq_true rfl⟩) ⟨fun a U g mk q => by obtain ⟨q0, q1, qP, qK, qD⟩ := q; exact ⟨q0, q1, qP, va_K.moved (u := U) (U := U.calling g mk a) (Vm.Alike.refl U.vm) qK, qD⟩, va_recv hK hP (ci := 1) (q0 := 2) rfl rfl, fun U hU hW => ⟨rfl, by rw [hU], by rw [hU]; exact hPc, va_K.moved hW.alike hKc, hDc.weaken (fun _ _ _ _ => trivial)⟩⟩ rfl rfl hl.1 rfl (lv_room (Nat.le_of_ble_eq_true rfl)) dL_law_182 ⟨by show cells + 0 + 1 ≤ 1200096; omega, by show slots + 0 + 12 ≤ 5501386; omega⟩) hS (fun q _ h => hFc q h) hFc (fun g1 t H1 locs ht hvm hw2 hB hz1 hk1 hS => ?_)
  obtain ⟨hP1, hK1, hD1⟩ := hB
  rw [ht] at hP1
  have hK1 := va_K.moved hvm.symm hK1
  obtain ⟨hP, hD⟩ := va_join (wr := [ld_O h1 0 a1, ld_A a1 d1 f1]) (w1 := [ld_O h2 1 a2, ld_A a2 d2 g1]) hP hD [2, 3] [0, 1] rfl rfl (by decide) (by decide) hk1 hFc hP1 hD1
  have hK := (hK.sub (tys' := [(d1, .long)]) [0] rfl).app hK1
  generalize H1 = H at hP hS ⊢
  have hP : va_P (dC, dI) ld_Cl [ld_O h1 0 a1, ld_A a1 d1 f1, ld_O h2 1 a2, ld_A a2 d2 g1] H := hP
  have hD : va_D (fun q : Nat => s.heap.size ≤ q) [ld_O h1 0 a1, ld_A a1 d1 f1, ld_O h2 1 a2, ld_A a2 d2 g1] := hD
  have hK : va_K (dC, dI) ld_Cl [(d1, .long), (d2, .long)] s := hK
  have hw2 : ∀ j, j < 12 → g1 j = ld_rv g (ld_fr (xs (i + 1))) (ld_tk (ld_fr (xs (i + 1))) (xs (i + 2))) j := hw2
  refine lv_goto (tgt := 426) hx hb dL_law_185 (by decide) ?_
  refine W.widen (k := cells + 1) (n := slots + 12) (by omega) (by omega) ?_
  exact kk f1 g1 (fun j hj => (hw1 j hj).trans ((ld_rv_cong (ld_tk_in (ld_fr_le _) _).2 hfg hj).trans (hw2 j hj).symm)) _ _ hP hD hS ls hl
end
section
/-! the law's cases 3 to 5 -/
set_option maxRecDepth 100000
set_option maxHeartbeats 4000000 in
set_option maxRecDepth 100000 in
/-- the law, case 3: most -/
theorem ld_case3 {p : Program} {l : Launch} {e : Env} {s : State} {m : MethodId} {below : List Frame} {meth : Method} {c : Code} {dC : Nat → ClassId} {dI : Nat → Nat → Nat} {b L : Nat} {xs : Nat → Int32} {qs h1 a1 h2 a2 : Nat} {d1 d2 : ClassId} (hL : L ≤ 288) (hx : p.tables.exec = Jvm.exec) (hb : c.code = code) (hml : c.maxLocals = 4) (hown : s.vm.findClass R_law = some m.cls) (hts : ∀ w ∈ lw_all, w.before #[Value.ref b] s = true) (hX : va_X b L xs s s.heap) (hbl : b < s.heap.size) (hZ : vk_R "Longs" 16 ld_tx qs s) (hK : va_K (dC, dI) ld_Cl [(d1, .long), (d2, .long)] s) {Z : State → Prop} (f g : Nat → Int64) (hfg : ∀ j, j < 12 → f j = g j) (i : Nat) (hi : i + 6 ≤ L) (cells slots : Nat) (hc : cells + 1 ≤ 1200096) (hs : slots + 12 ≤ 5501386) (H : Heap) (locs : List Loc) (hP : va_P (dC, dI) ld_Cl [ld_O h1 0 a1, ld_A a1 d1 f, ld_O h2 1 a2, ld_A a2 d2 g] H) (hD : va_D (fun q : Nat => s.heap.size ≤ q) [ld_O h1 0 a1, ld_A a1 d1 f, ld_O h2 1 a2, ld_A a2 d2 g]) (hS : va_S (fun q : Nat => s.heap.size ≤ q) s.heap H locs) (ls : Array Slot) (hl : lv_has ls 4 [(0, .ref b), (1, .ref h1), (2, .ref h2), (3, .int (nI i))]) (kk : ∀ (f g : Nat → Int64), (∀ j, j < 12 → f j = g j) → ∀ (H : Heap) (locs : List Loc), va_P (dC, dI) ld_Cl [ld_O h1 0 a1, ld_A a1 d1 f, ld_O h2 1 a2, ld_A a2 d2 g] H → va_D (fun q : Nat => s.heap.size ≤ q) [ld_O h1 0 a1, ld_A a1 d1 f, ld_O h2 1 a2, ld_A a2 d2 g] → va_S (fun q : Nat => s.heap.size ≤ q) s.heap H locs → ∀ (ls : Array Slot), lv_has ls 4 [(0, .ref b), (1, .ref h1), (2, .ref h2), (3, .int (nI i))] → W p l e room_1 s m #[Value.ref b] below meth c H locs (cells + 1) (slots + 12) Z (F0 m 426 ls [])) : W p l e room_1 s m #[Value.ref b] below meth c H locs (cells) (slots) Z (F0 m 188 ls []) := by
  have hA : ∀ q : Nat, s.heap.size ≤ q → (fun q : Nat => s.heap.size ≤ q) q := fun _ h => h
  have hbA : ¬ (fun q : Nat => s.heap.size ≤ q) b := Nat.not_le.mpr hbl
  refine lv_aload_n hx hb dL_law_188 rfl (lv_at hl 1 rfl) ?_
  have hPc := hP.sub (ws' := [ld_O h1 0 a1, ld_A a1 d1 f]) [0, 1] rfl
  have hDc := hD.sub (ws' := [ld_O h1 0 a1, ld_A a1 d1 f]) [0, 1] (by decide) rfl
  have hKc := hK.sub (tys' := [(d1, .long)]) [0] rfl
  have hFc := va_free (wc := [ld_O h1 0 a1, ld_A a1 d1 f]) hD hS hA [0, 1] rfl
  refine va_calll (va_runV (As := []) (rest := []) ⟨hx, hb, hml, hown, hts⟩ (metX0_most l dC dI H.size h1 a1 d1 f) (cwV 0 hts (lw_V q167 q168 q169 q5 q170) rfl rfl rfl (by decide +kernel) ⟨Nat.le_of_ble_eq_true rfl, Nat.le_of_ble_eq_true rfl⟩) ⟨fun a U g mk q => by obtain ⟨q0, q1, qP, qK, qD⟩ := q; exact ⟨q0, q1, qP, va_K.moved (u := U) (U := U.calling g mk a) (Vm.Alike.refl U.vm) qK, qD⟩, va_recv hK hP (ci := 0) (q0 := 0) rfl rfl, fun U hU hW => ⟨rfl, by rw [hU], by rw [hU]; exact hPc, va_K.moved hW.alike hKc, hDc.weaken (fun _ _ _ _ => trivial)⟩⟩ rfl rfl hl.1 rfl (lv_room (Nat.le_of_ble_eq_true rfl)) dL_law_189 ⟨by show cells + 0 ≤ 1200096; omega, by show slots + 0 ≤ 5501386; omega⟩) hS (fun q _ h => hFc q h) hFc (fun r1 u t H1 locs ht hvm hw1 hB hz1 hk1 hS => ?_)
  obtain ⟨hP1, hK1, hD1⟩ := hB
  rw [ht] at hP1
  have hK1 := va_K.moved hvm.symm hK1
  obtain ⟨hP, hD⟩ := va_join (wr := [ld_O h2 1 a2, ld_A a2 d2 g]) (w1 := [ld_O h1 0 a1, ld_A a1 d1 f]) hP hD [0, 1] [2, 3] rfl rfl (by decide) (by decide) hk1 hFc hP1 hD1
  have hK := (hK.sub (tys' := [(d2, .long)]) [1] rfl).app hK1
  generalize H1 = H at hP hS ⊢
  have hP := hP.sub (ws' := [ld_O h1 0 a1, ld_A a1 d1 f, ld_O h2 1 a2, ld_A a2 d2 g]) [2, 3, 0, 1] rfl
  have hD := hD.sub (ws' := [ld_O h1 0 a1, ld_A a1 d1 f, ld_O h2 1 a2, ld_A a2 d2 g]) [2, 3, 0, 1] (by decide) rfl
  have hK := hK.sub (tys' := [(d1, .long), (d2, .long)]) [1, 0] rfl
  have hP : va_P (dC, dI) ld_Cl [ld_O h1 0 a1, ld_A a1 d1 f, ld_O h2 1 a2, ld_A a2 d2 g] H := hP
  have hD : va_D (fun q : Nat => s.heap.size ≤ q) [ld_O h1 0 a1, ld_A a1 d1 f, ld_O h2 1 a2, ld_A a2 d2 g] := hD
  have hK : va_K (dC, dI) ld_Cl [(d1, .long), (d2, .long)] s := hK
  have hw1 : r1 = ld_mx f 12 := hw1
  refine lv_aload_n hx hb dL_law_192 rfl (lv_at hl 2 rfl) ?_
  have hPc := hP.sub (ws' := [ld_O h2 1 a2, ld_A a2 d2 g]) [2, 3] rfl
  have hDc := hD.sub (ws' := [ld_O h2 1 a2, ld_A a2 d2 g]) [2, 3] (by decide) rfl
  have hKc := hK.sub (tys' := [(d2, .long)]) [1] rfl
  have hFc := va_free (wc := [ld_O h2 1 a2, ld_A a2 d2 g]) hD hS hA [2, 3] rfl
  refine va_calll (va_runV (As := []) (rest := [.long r1]) ⟨hx, hb, hml, hown, hts⟩ (metX1_most l dC dI H.size h2 a2 d2 g) (cwV 0 hts (lw_V q292 q293 q294 q6 q295) rfl rfl rfl (by decide +kernel) ⟨Nat.le_of_ble_eq_true rfl, Nat.le_of_ble_eq_true rfl⟩) ⟨fun a U g mk q => by obtain ⟨q0, q1, qP, qK, qD⟩ := q; exact ⟨q0, q1, qP, va_K.moved (u := U) (U := U.calling g mk a) (Vm.Alike.refl U.vm) qK, qD⟩, va_recv hK hP (ci := 1) (q0 := 2) rfl rfl, fun U hU hW => ⟨rfl, by rw [hU], by rw [hU]; exact hPc, va_K.moved hW.alike hKc, hDc.weaken (fun _ _ _ _ => trivial)⟩⟩ rfl rfl hl.1 rfl (lv_room (Nat.le_of_ble_eq_true rfl)) dL_law_193 ⟨by show cells + 0 + 0 ≤ 1200096; omega, by show slots + 0 + 0 ≤ 5501386; omega⟩) hS (fun q _ h => hFc q h) hFc (fun r2 u t H1 locs ht hvm hw2 hB hz1 hk1 hS => ?_)
  obtain ⟨hP1, hK1, hD1⟩ := hB
  rw [ht] at hP1
  have hK1 := va_K.moved hvm.symm hK1
  obtain ⟨hP, hD⟩ := va_join (wr := [ld_O h1 0 a1, ld_A a1 d1 f]) (w1 := [ld_O h2 1 a2, ld_A a2 d2 g]) hP hD [2, 3] [0, 1] rfl rfl (by decide) (by decide) hk1 hFc hP1 hD1
  have hK := (hK.sub (tys' := [(d1, .long)]) [0] rfl).app hK1
  generalize H1 = H at hP hS ⊢
  have hP : va_P (dC, dI) ld_Cl [ld_O h1 0 a1, ld_A a1 d1 f, ld_O h2 1 a2, ld_A a2 d2 g] H := hP
  have hD : va_D (fun q : Nat => s.heap.size ≤ q) [ld_O h1 0 a1, ld_A a1 d1 f, ld_O h2 1 a2, ld_A a2 d2 g] := hD
  have hK : va_K (dC, dI) ld_Cl [(d1, .long), (d2, .long)] s := hK
  have hw2 : r2 = ld_mx g 12 := hw2
  have heq : r1 = r2 := hw1.trans ((ld_mx_cong hfg 12 (Nat.le_refl 12)).trans hw2.symm)
  refine W.lcmp hx hb dL_law_196 ?_
  refine lv_if_eq (tgt := 426) hx hb dL_law_197 (by decide) (fun c_2 => ?_) (fun c_2 => ?_)
  · refine W.widen (k := cells + 1) (n := slots + 12) (by omega) (by omega) ?_
    exact kk f g hfg _ _ hP hD hS ls hl
  · exact absurd (ld_ne_cmp heq) c_2
set_option maxHeartbeats 4000000 in
set_option maxRecDepth 100000 in
/-- the law, case 4: least -/
theorem ld_case4 {p : Program} {l : Launch} {e : Env} {s : State} {m : MethodId} {below : List Frame} {meth : Method} {c : Code} {dC : Nat → ClassId} {dI : Nat → Nat → Nat} {b L : Nat} {xs : Nat → Int32} {qs h1 a1 h2 a2 : Nat} {d1 d2 : ClassId} (hL : L ≤ 288) (hx : p.tables.exec = Jvm.exec) (hb : c.code = code) (hml : c.maxLocals = 4) (hown : s.vm.findClass R_law = some m.cls) (hts : ∀ w ∈ lw_all, w.before #[Value.ref b] s = true) (hX : va_X b L xs s s.heap) (hbl : b < s.heap.size) (hZ : vk_R "Longs" 16 ld_tx qs s) (hK : va_K (dC, dI) ld_Cl [(d1, .long), (d2, .long)] s) {Z : State → Prop} (f g : Nat → Int64) (hfg : ∀ j, j < 12 → f j = g j) (i : Nat) (hi : i + 6 ≤ L) (cells slots : Nat) (hc : cells + 1 ≤ 1200096) (hs : slots + 12 ≤ 5501386) (H : Heap) (locs : List Loc) (hP : va_P (dC, dI) ld_Cl [ld_O h1 0 a1, ld_A a1 d1 f, ld_O h2 1 a2, ld_A a2 d2 g] H) (hD : va_D (fun q : Nat => s.heap.size ≤ q) [ld_O h1 0 a1, ld_A a1 d1 f, ld_O h2 1 a2, ld_A a2 d2 g]) (hS : va_S (fun q : Nat => s.heap.size ≤ q) s.heap H locs) (ls : Array Slot) (hl : lv_has ls 4 [(0, .ref b), (1, .ref h1), (2, .ref h2), (3, .int (nI i))]) (kk : ∀ (f g : Nat → Int64), (∀ j, j < 12 → f j = g j) → ∀ (H : Heap) (locs : List Loc), va_P (dC, dI) ld_Cl [ld_O h1 0 a1, ld_A a1 d1 f, ld_O h2 1 a2, ld_A a2 d2 g] H → va_D (fun q : Nat => s.heap.size ≤ q) [ld_O h1 0 a1, ld_A a1 d1 f, ld_O h2 1 a2, ld_A a2 d2 g] → va_S (fun q : Nat => s.heap.size ≤ q) s.heap H locs → ∀ (ls : Array Slot), lv_has ls 4 [(0, .ref b), (1, .ref h1), (2, .ref h2), (3, .int (nI i))] → W p l e room_1 s m #[Value.ref b] below meth c H locs (cells + 1) (slots + 12) Z (F0 m 426 ls [])) : W p l e room_1 s m #[Value.ref b] below meth c H locs (cells) (slots) Z (F0 m 202 ls []) := by
  have hA : ∀ q : Nat, s.heap.size ≤ q → (fun q : Nat => s.heap.size ≤ q) q := fun _ h => h
  have hbA : ¬ (fun q : Nat => s.heap.size ≤ q) b := Nat.not_le.mpr hbl
  refine lv_aload_n hx hb dL_law_202 rfl (lv_at hl 1 rfl) ?_
  have hPc := hP.sub (ws' := [ld_O h1 0 a1, ld_A a1 d1 f]) [0, 1] rfl
  have hDc := hD.sub (ws' := [ld_O h1 0 a1, ld_A a1 d1 f]) [0, 1] (by decide) rfl
  have hKc := hK.sub (tys' := [(d1, .long)]) [0] rfl
  have hFc := va_free (wc := [ld_O h1 0 a1, ld_A a1 d1 f]) hD hS hA [0, 1] rfl
  refine va_calll (va_runV (As := []) (rest := []) ⟨hx, hb, hml, hown, hts⟩ (metX0_least l dC dI H.size h1 a1 d1 f) (cwV 0 hts (lw_V q192 q193 q194 q5 q195) rfl rfl rfl (by decide +kernel) ⟨Nat.le_of_ble_eq_true rfl, Nat.le_of_ble_eq_true rfl⟩) ⟨fun a U g mk q => by obtain ⟨q0, q1, qP, qK, qD⟩ := q; exact ⟨q0, q1, qP, va_K.moved (u := U) (U := U.calling g mk a) (Vm.Alike.refl U.vm) qK, qD⟩, va_recv hK hP (ci := 0) (q0 := 0) rfl rfl, fun U hU hW => ⟨rfl, by rw [hU], by rw [hU]; exact hPc, va_K.moved hW.alike hKc, hDc.weaken (fun _ _ _ _ => trivial)⟩⟩ rfl rfl hl.1 rfl (lv_room (Nat.le_of_ble_eq_true rfl)) dL_law_203 ⟨by show cells + 0 ≤ 1200096; omega, by show slots + 0 ≤ 5501386; omega⟩) hS (fun q _ h => hFc q h) hFc (fun r1 u t H1 locs ht hvm hw1 hB hz1 hk1 hS => ?_)
  obtain ⟨hP1, hK1, hD1⟩ := hB
  rw [ht] at hP1
  have hK1 := va_K.moved hvm.symm hK1
  obtain ⟨hP, hD⟩ := va_join (wr := [ld_O h2 1 a2, ld_A a2 d2 g]) (w1 := [ld_O h1 0 a1, ld_A a1 d1 f]) hP hD [0, 1] [2, 3] rfl rfl (by decide) (by decide) hk1 hFc hP1 hD1
  have hK := (hK.sub (tys' := [(d2, .long)]) [1] rfl).app hK1
  generalize H1 = H at hP hS ⊢
  have hP := hP.sub (ws' := [ld_O h1 0 a1, ld_A a1 d1 f, ld_O h2 1 a2, ld_A a2 d2 g]) [2, 3, 0, 1] rfl
  have hD := hD.sub (ws' := [ld_O h1 0 a1, ld_A a1 d1 f, ld_O h2 1 a2, ld_A a2 d2 g]) [2, 3, 0, 1] (by decide) rfl
  have hK := hK.sub (tys' := [(d1, .long), (d2, .long)]) [1, 0] rfl
  have hP : va_P (dC, dI) ld_Cl [ld_O h1 0 a1, ld_A a1 d1 f, ld_O h2 1 a2, ld_A a2 d2 g] H := hP
  have hD : va_D (fun q : Nat => s.heap.size ≤ q) [ld_O h1 0 a1, ld_A a1 d1 f, ld_O h2 1 a2, ld_A a2 d2 g] := hD
  have hK : va_K (dC, dI) ld_Cl [(d1, .long), (d2, .long)] s := hK
  have hw1 : r1 = ld_mn f 12 := hw1
  refine lv_aload_n hx hb dL_law_206 rfl (lv_at hl 2 rfl) ?_
  have hPc := hP.sub (ws' := [ld_O h2 1 a2, ld_A a2 d2 g]) [2, 3] rfl
  have hDc := hD.sub (ws' := [ld_O h2 1 a2, ld_A a2 d2 g]) [2, 3] (by decide) rfl
  have hKc := hK.sub (tys' := [(d2, .long)]) [1] rfl
  have hFc := va_free (wc := [ld_O h2 1 a2, ld_A a2 d2 g]) hD hS hA [2, 3] rfl
  refine va_calll (va_runV (As := []) (rest := [.long r1]) ⟨hx, hb, hml, hown, hts⟩ (metX1_least l dC dI H.size h2 a2 d2 g) (cwV 0 hts (lw_V q296 q297 q298 q6 q299) rfl rfl rfl (by decide +kernel) ⟨Nat.le_of_ble_eq_true rfl, Nat.le_of_ble_eq_true rfl⟩) ⟨fun a U g mk q => by obtain ⟨q0, q1, qP, qK, qD⟩ := q; exact ⟨q0, q1, qP, va_K.moved (u := U) (U := U.calling g mk a) (Vm.Alike.refl U.vm) qK, qD⟩, va_recv hK hP (ci := 1) (q0 := 2) rfl rfl, fun U hU hW => ⟨rfl, by rw [hU], by rw [hU]; exact hPc, va_K.moved hW.alike hKc, hDc.weaken (fun _ _ _ _ => trivial)⟩⟩ rfl rfl hl.1 rfl (lv_room (Nat.le_of_ble_eq_true rfl)) dL_law_207 ⟨by show cells + 0 + 0 ≤ 1200096; omega, by show slots + 0 + 0 ≤ 5501386; omega⟩) hS (fun q _ h => hFc q h) hFc (fun r2 u t H1 locs ht hvm hw2 hB hz1 hk1 hS => ?_)
  obtain ⟨hP1, hK1, hD1⟩ := hB
  rw [ht] at hP1
  have hK1 := va_K.moved hvm.symm hK1
  obtain ⟨hP, hD⟩ := va_join (wr := [ld_O h1 0 a1, ld_A a1 d1 f]) (w1 := [ld_O h2 1 a2, ld_A a2 d2 g]) hP hD [2, 3] [0, 1] rfl rfl (by decide) (by decide) hk1 hFc hP1 hD1
  have hK := (hK.sub (tys' := [(d1, .long)]) [0] rfl).app hK1
  generalize H1 = H at hP hS ⊢
  have hP : va_P (dC, dI) ld_Cl [ld_O h1 0 a1, ld_A a1 d1 f, ld_O h2 1 a2, ld_A a2 d2 g] H := hP
  have hD : va_D (fun q : Nat => s.heap.size ≤ q) [ld_O h1 0 a1, ld_A a1 d1 f, ld_O h2 1 a2, ld_A a2 d2 g] := hD
  have hK : va_K (dC, dI) ld_Cl [(d1, .long), (d2, .long)] s := hK
  have hw2 : r2 = ld_mn g 12 := hw2
  have heq : r1 = r2 := hw1.trans ((ld_mn_cong hfg 12 (Nat.le_refl 12)).trans hw2.symm)
  refine W.lcmp hx hb dL_law_210 ?_
  refine lv_if_eq (tgt := 426) hx hb dL_law_211 (by decide) (fun c_3 => ?_) (fun c_3 => ?_)
  · refine W.widen (k := cells + 1) (n := slots + 12) (by omega) (by omega) ?_
    exact kk f g hfg _ _ hP hD hS ls hl
  · exact absurd (ld_ne_cmp heq) c_3
set_option maxHeartbeats 4000000 in
set_option maxRecDepth 100000 in
/-- the law, case 5: find -/
theorem ld_case5 {p : Program} {l : Launch} {e : Env} {s : State} {m : MethodId} {below : List Frame} {meth : Method} {c : Code} {dC : Nat → ClassId} {dI : Nat → Nat → Nat} {b L : Nat} {xs : Nat → Int32} {qs h1 a1 h2 a2 : Nat} {d1 d2 : ClassId} (hL : L ≤ 288) (hx : p.tables.exec = Jvm.exec) (hb : c.code = code) (hml : c.maxLocals = 4) (hown : s.vm.findClass R_law = some m.cls) (hts : ∀ w ∈ lw_all, w.before #[Value.ref b] s = true) (hX : va_X b L xs s s.heap) (hbl : b < s.heap.size) (hZ : vk_R "Longs" 16 ld_tx qs s) (hK : va_K (dC, dI) ld_Cl [(d1, .long), (d2, .long)] s) {Z : State → Prop} (f g : Nat → Int64) (hfg : ∀ j, j < 12 → f j = g j) (i : Nat) (hi : i + 6 ≤ L) (cells slots : Nat) (hc : cells + 1 ≤ 1200096) (hs : slots + 12 ≤ 5501386) (H : Heap) (locs : List Loc) (hP : va_P (dC, dI) ld_Cl [ld_O h1 0 a1, ld_A a1 d1 f, ld_O h2 1 a2, ld_A a2 d2 g] H) (hD : va_D (fun q : Nat => s.heap.size ≤ q) [ld_O h1 0 a1, ld_A a1 d1 f, ld_O h2 1 a2, ld_A a2 d2 g]) (hS : va_S (fun q : Nat => s.heap.size ≤ q) s.heap H locs) (ls : Array Slot) (hl : lv_has ls 4 [(0, .ref b), (1, .ref h1), (2, .ref h2), (3, .int (nI i))]) (kk : ∀ (f g : Nat → Int64), (∀ j, j < 12 → f j = g j) → ∀ (H : Heap) (locs : List Loc), va_P (dC, dI) ld_Cl [ld_O h1 0 a1, ld_A a1 d1 f, ld_O h2 1 a2, ld_A a2 d2 g] H → va_D (fun q : Nat => s.heap.size ≤ q) [ld_O h1 0 a1, ld_A a1 d1 f, ld_O h2 1 a2, ld_A a2 d2 g] → va_S (fun q : Nat => s.heap.size ≤ q) s.heap H locs → ∀ (ls : Array Slot), lv_has ls 4 [(0, .ref b), (1, .ref h1), (2, .ref h2), (3, .int (nI i))] → W p l e room_1 s m #[Value.ref b] below meth c H locs (cells + 1) (slots + 12) Z (F0 m 426 ls [])) : W p l e room_1 s m #[Value.ref b] below meth c H locs (cells) (slots) Z (F0 m 216 ls []) := by
  have hA : ∀ q : Nat, s.heap.size ≤ q → (fun q : Nat => s.heap.size ≤ q) q := fun _ h => h
  have hbA : ¬ (fun q : Nat => s.heap.size ≤ q) b := Nat.not_le.mpr hbl
  refine lv_aload_n hx hb dL_law_216 rfl (lv_at hl 1 rfl) ?_
  refine lv_aload_n hx hb dL_law_217 rfl (lv_at hl 0 rfl) ?_
  refine lv_iload_n hx hb dL_law_218 rfl (lv_at hl 3 rfl) ?_
  refine lv_iconst (v := nI 1) hx hb dL_law_219 (by decide +kernel) ?_
  refine lv_iadd hx hb dL_law_220 ?_
  refine ld_topi (y := nI (i + 1)) (nI_add _ _) ?_
  refine ld_sld (i := i + 1) hx hb hX hbl hbA hS (by omega) (by omega) dL_law_221 ?_
  refine lv_aload_n hx hb dL_law_222 rfl (lv_at hl 0 rfl) ?_
  refine lv_iload_n hx hb dL_law_223 rfl (lv_at hl 3 rfl) ?_
  refine lv_iconst (v := nI 2) hx hb dL_law_224 (by decide +kernel) ?_
  refine lv_iadd hx hb dL_law_225 ?_
  refine ld_topi (y := nI (i + 2)) (nI_add _ _) ?_
  refine ld_sld (i := i + 2) hx hb hX hbl hbA hS (by omega) (by omega) dL_law_226 ?_
  have hPc := hP.sub (ws' := [ld_O h1 0 a1, ld_A a1 d1 f]) [0, 1] rfl
  have hDc := hD.sub (ws' := [ld_O h1 0 a1, ld_A a1 d1 f]) [0, 1] (by decide) rfl
  have hKc := hK.sub (tys' := [(d1, .long)]) [0] rfl
  have hFc := va_free (wc := [ld_O h1 0 a1, ld_A a1 d1 f]) hD hS hA [0, 1] rfl
  refine va_calli (va_runV (As := [.int (xs (i + 1)), .int (xs (i + 2))]) (rest := []) ⟨hx, hb, hml, hown, hts⟩ (metX0_find l dC dI H.size h1 a1 d1 f (xs (i + 1)) (xs (i + 2))) (cwV 2 hts (lw_V q199 q200 q201 q5 q202) rfl rfl rfl (by decide +kernel) ⟨Nat.le_of_ble_eq_true rfl, Nat.le_of_ble_eq_true rfl⟩) ⟨fun a U g mk q => by obtain ⟨q0, q1, qP, qK, qD⟩ := q; exact ⟨q0, q1, qP, va_K.moved (u := U) (U := U.calling g mk a) (Vm.Alike.refl U.vm) qK, qD⟩, va_recv hK hP (ci := 0) (q0 := 0) rfl rfl, fun U hU hW => ⟨rfl, by rw [hU], by rw [hU]; exact hPc, va_K.moved hW.alike hKc, hDc.weaken (fun _ _ _ _ => trivial)⟩⟩ rfl rfl hl.1 rfl (lv_room (Nat.le_of_ble_eq_true rfl)) dL_law_227 ⟨by show cells + 0 ≤ 1200096; omega, by show slots + 0 ≤ 5501386; omega⟩) hS (fun q _ h => hFc q h) hFc (fun r1 u t H1 locs ht hvm hw1 hB hz1 hk1 hS => ?_)
  obtain ⟨hP1, hK1, hD1⟩ := hB
  rw [ht] at hP1
  have hK1 := va_K.moved hvm.symm hK1
  obtain ⟨hP, hD⟩ := va_join (wr := [ld_O h2 1 a2, ld_A a2 d2 g]) (w1 := [ld_O h1 0 a1, ld_A a1 d1 f]) hP hD [0, 1] [2, 3] rfl rfl (by decide) (by decide) hk1 hFc hP1 hD1
  have hK := (hK.sub (tys' := [(d2, .long)]) [1] rfl).app hK1
  generalize H1 = H at hP hS ⊢
  have hP := hP.sub (ws' := [ld_O h1 0 a1, ld_A a1 d1 f, ld_O h2 1 a2, ld_A a2 d2 g]) [2, 3, 0, 1] rfl
  have hD := hD.sub (ws' := [ld_O h1 0 a1, ld_A a1 d1 f, ld_O h2 1 a2, ld_A a2 d2 g]) [2, 3, 0, 1] (by decide) rfl
  have hK := hK.sub (tys' := [(d1, .long), (d2, .long)]) [1, 0] rfl
  have hP : va_P (dC, dI) ld_Cl [ld_O h1 0 a1, ld_A a1 d1 f, ld_O h2 1 a2, ld_A a2 d2 g] H := hP
  have hD : va_D (fun q : Nat => s.heap.size ≤ q) [ld_O h1 0 a1, ld_A a1 d1 f, ld_O h2 1 a2, ld_A a2 d2 g] := hD
  have hK : va_K (dC, dI) ld_Cl [(d1, .long), (d2, .long)] s := hK
  have hw1 : ld_first f (ld_wd (xs (i + 1)) (xs (i + 2))) r1 := hw1
  refine lv_aload_n hx hb dL_law_230 rfl (lv_at hl 2 rfl) ?_
  refine lv_aload_n hx hb dL_law_231 rfl (lv_at hl 0 rfl) ?_
  refine lv_iload_n hx hb dL_law_232 rfl (lv_at hl 3 rfl) ?_
  refine lv_iconst (v := nI 1) hx hb dL_law_233 (by decide +kernel) ?_
  refine lv_iadd hx hb dL_law_234 ?_
  refine ld_topi (y := nI (i + 1)) (nI_add _ _) ?_
  refine ld_sld (i := i + 1) hx hb hX hbl hbA hS (by omega) (by omega) dL_law_235 ?_
  refine lv_aload_n hx hb dL_law_236 rfl (lv_at hl 0 rfl) ?_
  refine lv_iload_n hx hb dL_law_237 rfl (lv_at hl 3 rfl) ?_
  refine lv_iconst (v := nI 2) hx hb dL_law_238 (by decide +kernel) ?_
  refine lv_iadd hx hb dL_law_239 ?_
  refine ld_topi (y := nI (i + 2)) (nI_add _ _) ?_
  refine ld_sld (i := i + 2) hx hb hX hbl hbA hS (by omega) (by omega) dL_law_240 ?_
  have hPc := hP.sub (ws' := [ld_O h2 1 a2, ld_A a2 d2 g]) [2, 3] rfl
  have hDc := hD.sub (ws' := [ld_O h2 1 a2, ld_A a2 d2 g]) [2, 3] (by decide) rfl
  have hKc := hK.sub (tys' := [(d2, .long)]) [1] rfl
  have hFc := va_free (wc := [ld_O h2 1 a2, ld_A a2 d2 g]) hD hS hA [2, 3] rfl
  refine va_calli (va_runV (As := [.int (xs (i + 1)), .int (xs (i + 2))]) (rest := [.int r1]) ⟨hx, hb, hml, hown, hts⟩ (metX1_find l dC dI H.size h2 a2 d2 g (xs (i + 1)) (xs (i + 2))) (cwV 2 hts (lw_V q300 q301 q302 q6 q303) rfl rfl rfl (by decide +kernel) ⟨Nat.le_of_ble_eq_true rfl, Nat.le_of_ble_eq_true rfl⟩) ⟨fun a U g mk q => by obtain ⟨q0, q1, qP, qK, qD⟩ := q; exact ⟨q0, q1, qP, va_K.moved (u := U) (U := U.calling g mk a) (Vm.Alike.refl U.vm) qK, qD⟩, va_recv hK hP (ci := 1) (q0 := 2) rfl rfl, fun U hU hW => ⟨rfl, by rw [hU], by rw [hU]; exact hPc, va_K.moved hW.alike hKc, hDc.weaken (fun _ _ _ _ => trivial)⟩⟩ rfl rfl hl.1 rfl (lv_room (Nat.le_of_ble_eq_true rfl)) dL_law_241 ⟨by show cells + 0 + 0 ≤ 1200096; omega, by show slots + 0 + 0 ≤ 5501386; omega⟩) hS (fun q _ h => hFc q h) hFc (fun r2 u t H1 locs ht hvm hw2 hB hz1 hk1 hS => ?_)
  obtain ⟨hP1, hK1, hD1⟩ := hB
  rw [ht] at hP1
  have hK1 := va_K.moved hvm.symm hK1
  obtain ⟨hP, hD⟩ := va_join (wr := [ld_O h1 0 a1, ld_A a1 d1 f]) (w1 := [ld_O h2 1 a2, ld_A a2 d2 g]) hP hD [2, 3] [0, 1] rfl rfl (by decide) (by decide) hk1 hFc hP1 hD1
  have hK := (hK.sub (tys' := [(d1, .long)]) [0] rfl).app hK1
  generalize H1 = H at hP hS ⊢
  have hP : va_P (dC, dI) ld_Cl [ld_O h1 0 a1, ld_A a1 d1 f, ld_O h2 1 a2, ld_A a2 d2 g] H := hP
  have hD : va_D (fun q : Nat => s.heap.size ≤ q) [ld_O h1 0 a1, ld_A a1 d1 f, ld_O h2 1 a2, ld_A a2 d2 g] := hD
  have hK : va_K (dC, dI) ld_Cl [(d1, .long), (d2, .long)] s := hK
  have hw2 : ld_first g (ld_wd (xs (i + 1)) (xs (i + 2))) r2 := hw2
  have heq : r1 = r2 := ld_first_eq hfg hw1 hw2
  refine lv_icmp_eq (tgt := 426) hx hb dL_law_244 (by decide) (fun c_4 => ?_) (fun c_4 => ?_)
  · refine W.widen (k := cells + 1) (n := slots + 12) (by omega) (by omega) ?_
    exact kk f g hfg _ _ hP hD hS ls hl
  · exact absurd heq c_4
end
section
/-! the law's cases 6 to 8 -/
set_option maxRecDepth 100000
set_option maxHeartbeats 4000000 in
set_option maxRecDepth 100000 in
/-- the law, case 6: findLast -/
theorem ld_case6 {p : Program} {l : Launch} {e : Env} {s : State} {m : MethodId} {below : List Frame} {meth : Method} {c : Code} {dC : Nat → ClassId} {dI : Nat → Nat → Nat} {b L : Nat} {xs : Nat → Int32} {qs h1 a1 h2 a2 : Nat} {d1 d2 : ClassId} (hL : L ≤ 288) (hx : p.tables.exec = Jvm.exec) (hb : c.code = code) (hml : c.maxLocals = 4) (hown : s.vm.findClass R_law = some m.cls) (hts : ∀ w ∈ lw_all, w.before #[Value.ref b] s = true) (hX : va_X b L xs s s.heap) (hbl : b < s.heap.size) (hZ : vk_R "Longs" 16 ld_tx qs s) (hK : va_K (dC, dI) ld_Cl [(d1, .long), (d2, .long)] s) {Z : State → Prop} (f g : Nat → Int64) (hfg : ∀ j, j < 12 → f j = g j) (i : Nat) (hi : i + 6 ≤ L) (cells slots : Nat) (hc : cells + 1 ≤ 1200096) (hs : slots + 12 ≤ 5501386) (H : Heap) (locs : List Loc) (hP : va_P (dC, dI) ld_Cl [ld_O h1 0 a1, ld_A a1 d1 f, ld_O h2 1 a2, ld_A a2 d2 g] H) (hD : va_D (fun q : Nat => s.heap.size ≤ q) [ld_O h1 0 a1, ld_A a1 d1 f, ld_O h2 1 a2, ld_A a2 d2 g]) (hS : va_S (fun q : Nat => s.heap.size ≤ q) s.heap H locs) (ls : Array Slot) (hl : lv_has ls 4 [(0, .ref b), (1, .ref h1), (2, .ref h2), (3, .int (nI i))]) (kk : ∀ (f g : Nat → Int64), (∀ j, j < 12 → f j = g j) → ∀ (H : Heap) (locs : List Loc), va_P (dC, dI) ld_Cl [ld_O h1 0 a1, ld_A a1 d1 f, ld_O h2 1 a2, ld_A a2 d2 g] H → va_D (fun q : Nat => s.heap.size ≤ q) [ld_O h1 0 a1, ld_A a1 d1 f, ld_O h2 1 a2, ld_A a2 d2 g] → va_S (fun q : Nat => s.heap.size ≤ q) s.heap H locs → ∀ (ls : Array Slot), lv_has ls 4 [(0, .ref b), (1, .ref h1), (2, .ref h2), (3, .int (nI i))] → W p l e room_1 s m #[Value.ref b] below meth c H locs (cells + 1) (slots + 12) Z (F0 m 426 ls [])) : W p l e room_1 s m #[Value.ref b] below meth c H locs (cells) (slots) Z (F0 m 249 ls []) := by
  have hA : ∀ q : Nat, s.heap.size ≤ q → (fun q : Nat => s.heap.size ≤ q) q := fun _ h => h
  have hbA : ¬ (fun q : Nat => s.heap.size ≤ q) b := Nat.not_le.mpr hbl
  refine lv_aload_n hx hb dL_law_249 rfl (lv_at hl 1 rfl) ?_
  refine lv_aload_n hx hb dL_law_250 rfl (lv_at hl 0 rfl) ?_
  refine lv_iload_n hx hb dL_law_251 rfl (lv_at hl 3 rfl) ?_
  refine lv_iconst (v := nI 1) hx hb dL_law_252 (by decide +kernel) ?_
  refine lv_iadd hx hb dL_law_253 ?_
  refine ld_topi (y := nI (i + 1)) (nI_add _ _) ?_
  refine ld_sld (i := i + 1) hx hb hX hbl hbA hS (by omega) (by omega) dL_law_254 ?_
  refine lv_aload_n hx hb dL_law_255 rfl (lv_at hl 0 rfl) ?_
  refine lv_iload_n hx hb dL_law_256 rfl (lv_at hl 3 rfl) ?_
  refine lv_iconst (v := nI 2) hx hb dL_law_257 (by decide +kernel) ?_
  refine lv_iadd hx hb dL_law_258 ?_
  refine ld_topi (y := nI (i + 2)) (nI_add _ _) ?_
  refine ld_sld (i := i + 2) hx hb hX hbl hbA hS (by omega) (by omega) dL_law_259 ?_
  have hPc := hP.sub (ws' := [ld_O h1 0 a1, ld_A a1 d1 f]) [0, 1] rfl
  have hDc := hD.sub (ws' := [ld_O h1 0 a1, ld_A a1 d1 f]) [0, 1] (by decide) rfl
  have hKc := hK.sub (tys' := [(d1, .long)]) [0] rfl
  have hFc := va_free (wc := [ld_O h1 0 a1, ld_A a1 d1 f]) hD hS hA [0, 1] rfl
  refine va_calli (va_runV (As := [.int (xs (i + 1)), .int (xs (i + 2))]) (rest := []) ⟨hx, hb, hml, hown, hts⟩ (metX0_findLast l dC dI H.size h1 a1 d1 f (xs (i + 1)) (xs (i + 2))) (cwV 2 hts (lw_V q209 q210 q211 q5 q212) rfl rfl rfl (by decide +kernel) ⟨Nat.le_of_ble_eq_true rfl, Nat.le_of_ble_eq_true rfl⟩) ⟨fun a U g mk q => by obtain ⟨q0, q1, qP, qK, qD⟩ := q; exact ⟨q0, q1, qP, va_K.moved (u := U) (U := U.calling g mk a) (Vm.Alike.refl U.vm) qK, qD⟩, va_recv hK hP (ci := 0) (q0 := 0) rfl rfl, fun U hU hW => ⟨rfl, by rw [hU], by rw [hU]; exact hPc, va_K.moved hW.alike hKc, hDc.weaken (fun _ _ _ _ => trivial)⟩⟩ rfl rfl hl.1 rfl (lv_room (Nat.le_of_ble_eq_true rfl)) dL_law_260 ⟨by show cells + 0 ≤ 1200096; omega, by show slots + 0 ≤ 5501386; omega⟩) hS (fun q _ h => hFc q h) hFc (fun r1 u t H1 locs ht hvm hw1 hB hz1 hk1 hS => ?_)
  obtain ⟨hP1, hK1, hD1⟩ := hB
  rw [ht] at hP1
  have hK1 := va_K.moved hvm.symm hK1
  obtain ⟨hP, hD⟩ := va_join (wr := [ld_O h2 1 a2, ld_A a2 d2 g]) (w1 := [ld_O h1 0 a1, ld_A a1 d1 f]) hP hD [0, 1] [2, 3] rfl rfl (by decide) (by decide) hk1 hFc hP1 hD1
  have hK := (hK.sub (tys' := [(d2, .long)]) [1] rfl).app hK1
  generalize H1 = H at hP hS ⊢
  have hP := hP.sub (ws' := [ld_O h1 0 a1, ld_A a1 d1 f, ld_O h2 1 a2, ld_A a2 d2 g]) [2, 3, 0, 1] rfl
  have hD := hD.sub (ws' := [ld_O h1 0 a1, ld_A a1 d1 f, ld_O h2 1 a2, ld_A a2 d2 g]) [2, 3, 0, 1] (by decide) rfl
  have hK := hK.sub (tys' := [(d1, .long), (d2, .long)]) [1, 0] rfl
  have hP : va_P (dC, dI) ld_Cl [ld_O h1 0 a1, ld_A a1 d1 f, ld_O h2 1 a2, ld_A a2 d2 g] H := hP
  have hD : va_D (fun q : Nat => s.heap.size ≤ q) [ld_O h1 0 a1, ld_A a1 d1 f, ld_O h2 1 a2, ld_A a2 d2 g] := hD
  have hK : va_K (dC, dI) ld_Cl [(d1, .long), (d2, .long)] s := hK
  have hw1 : ld_last f (ld_wd (xs (i + 1)) (xs (i + 2))) r1 := hw1
  refine lv_aload_n hx hb dL_law_263 rfl (lv_at hl 2 rfl) ?_
  refine lv_aload_n hx hb dL_law_264 rfl (lv_at hl 0 rfl) ?_
  refine lv_iload_n hx hb dL_law_265 rfl (lv_at hl 3 rfl) ?_
  refine lv_iconst (v := nI 1) hx hb dL_law_266 (by decide +kernel) ?_
  refine lv_iadd hx hb dL_law_267 ?_
  refine ld_topi (y := nI (i + 1)) (nI_add _ _) ?_
  refine ld_sld (i := i + 1) hx hb hX hbl hbA hS (by omega) (by omega) dL_law_268 ?_
  refine lv_aload_n hx hb dL_law_269 rfl (lv_at hl 0 rfl) ?_
  refine lv_iload_n hx hb dL_law_270 rfl (lv_at hl 3 rfl) ?_
  refine lv_iconst (v := nI 2) hx hb dL_law_271 (by decide +kernel) ?_
  refine lv_iadd hx hb dL_law_272 ?_
  refine ld_topi (y := nI (i + 2)) (nI_add _ _) ?_
  refine ld_sld (i := i + 2) hx hb hX hbl hbA hS (by omega) (by omega) dL_law_273 ?_
  have hPc := hP.sub (ws' := [ld_O h2 1 a2, ld_A a2 d2 g]) [2, 3] rfl
  have hDc := hD.sub (ws' := [ld_O h2 1 a2, ld_A a2 d2 g]) [2, 3] (by decide) rfl
  have hKc := hK.sub (tys' := [(d2, .long)]) [1] rfl
  have hFc := va_free (wc := [ld_O h2 1 a2, ld_A a2 d2 g]) hD hS hA [2, 3] rfl
  refine va_calli (va_runV (As := [.int (xs (i + 1)), .int (xs (i + 2))]) (rest := [.int r1]) ⟨hx, hb, hml, hown, hts⟩ (metX1_findLast l dC dI H.size h2 a2 d2 g (xs (i + 1)) (xs (i + 2))) (cwV 2 hts (lw_V q304 q305 q306 q6 q307) rfl rfl rfl (by decide +kernel) ⟨Nat.le_of_ble_eq_true rfl, Nat.le_of_ble_eq_true rfl⟩) ⟨fun a U g mk q => by obtain ⟨q0, q1, qP, qK, qD⟩ := q; exact ⟨q0, q1, qP, va_K.moved (u := U) (U := U.calling g mk a) (Vm.Alike.refl U.vm) qK, qD⟩, va_recv hK hP (ci := 1) (q0 := 2) rfl rfl, fun U hU hW => ⟨rfl, by rw [hU], by rw [hU]; exact hPc, va_K.moved hW.alike hKc, hDc.weaken (fun _ _ _ _ => trivial)⟩⟩ rfl rfl hl.1 rfl (lv_room (Nat.le_of_ble_eq_true rfl)) dL_law_274 ⟨by show cells + 0 + 0 ≤ 1200096; omega, by show slots + 0 + 0 ≤ 5501386; omega⟩) hS (fun q _ h => hFc q h) hFc (fun r2 u t H1 locs ht hvm hw2 hB hz1 hk1 hS => ?_)
  obtain ⟨hP1, hK1, hD1⟩ := hB
  rw [ht] at hP1
  have hK1 := va_K.moved hvm.symm hK1
  obtain ⟨hP, hD⟩ := va_join (wr := [ld_O h1 0 a1, ld_A a1 d1 f]) (w1 := [ld_O h2 1 a2, ld_A a2 d2 g]) hP hD [2, 3] [0, 1] rfl rfl (by decide) (by decide) hk1 hFc hP1 hD1
  have hK := (hK.sub (tys' := [(d1, .long)]) [0] rfl).app hK1
  generalize H1 = H at hP hS ⊢
  have hP : va_P (dC, dI) ld_Cl [ld_O h1 0 a1, ld_A a1 d1 f, ld_O h2 1 a2, ld_A a2 d2 g] H := hP
  have hD : va_D (fun q : Nat => s.heap.size ≤ q) [ld_O h1 0 a1, ld_A a1 d1 f, ld_O h2 1 a2, ld_A a2 d2 g] := hD
  have hK : va_K (dC, dI) ld_Cl [(d1, .long), (d2, .long)] s := hK
  have hw2 : ld_last g (ld_wd (xs (i + 1)) (xs (i + 2))) r2 := hw2
  have heq : r1 = r2 := ld_last_eq hfg hw1 hw2
  refine lv_icmp_eq (tgt := 426) hx hb dL_law_277 (by decide) (fun c_5 => ?_) (fun c_5 => ?_)
  · refine W.widen (k := cells + 1) (n := slots + 12) (by omega) (by omega) ?_
    exact kk f g hfg _ _ hP hD hS ls hl
  · exact absurd heq c_5
set_option maxHeartbeats 4000000 in
set_option maxRecDepth 100000 in
/-- the law, case 7: has -/
theorem ld_case7 {p : Program} {l : Launch} {e : Env} {s : State} {m : MethodId} {below : List Frame} {meth : Method} {c : Code} {dC : Nat → ClassId} {dI : Nat → Nat → Nat} {b L : Nat} {xs : Nat → Int32} {qs h1 a1 h2 a2 : Nat} {d1 d2 : ClassId} (hL : L ≤ 288) (hx : p.tables.exec = Jvm.exec) (hb : c.code = code) (hml : c.maxLocals = 4) (hown : s.vm.findClass R_law = some m.cls) (hts : ∀ w ∈ lw_all, w.before #[Value.ref b] s = true) (hX : va_X b L xs s s.heap) (hbl : b < s.heap.size) (hZ : vk_R "Longs" 16 ld_tx qs s) (hK : va_K (dC, dI) ld_Cl [(d1, .long), (d2, .long)] s) {Z : State → Prop} (f g : Nat → Int64) (hfg : ∀ j, j < 12 → f j = g j) (i : Nat) (hi : i + 6 ≤ L) (cells slots : Nat) (hc : cells + 1 ≤ 1200096) (hs : slots + 12 ≤ 5501386) (H : Heap) (locs : List Loc) (hP : va_P (dC, dI) ld_Cl [ld_O h1 0 a1, ld_A a1 d1 f, ld_O h2 1 a2, ld_A a2 d2 g] H) (hD : va_D (fun q : Nat => s.heap.size ≤ q) [ld_O h1 0 a1, ld_A a1 d1 f, ld_O h2 1 a2, ld_A a2 d2 g]) (hS : va_S (fun q : Nat => s.heap.size ≤ q) s.heap H locs) (ls : Array Slot) (hl : lv_has ls 4 [(0, .ref b), (1, .ref h1), (2, .ref h2), (3, .int (nI i))]) (kk : ∀ (f g : Nat → Int64), (∀ j, j < 12 → f j = g j) → ∀ (H : Heap) (locs : List Loc), va_P (dC, dI) ld_Cl [ld_O h1 0 a1, ld_A a1 d1 f, ld_O h2 1 a2, ld_A a2 d2 g] H → va_D (fun q : Nat => s.heap.size ≤ q) [ld_O h1 0 a1, ld_A a1 d1 f, ld_O h2 1 a2, ld_A a2 d2 g] → va_S (fun q : Nat => s.heap.size ≤ q) s.heap H locs → ∀ (ls : Array Slot), lv_has ls 4 [(0, .ref b), (1, .ref h1), (2, .ref h2), (3, .int (nI i))] → W p l e room_1 s m #[Value.ref b] below meth c H locs (cells + 1) (slots + 12) Z (F0 m 426 ls [])) : W p l e room_1 s m #[Value.ref b] below meth c H locs (cells) (slots) Z (F0 m 282 ls []) := by
  have hA : ∀ q : Nat, s.heap.size ≤ q → (fun q : Nat => s.heap.size ≤ q) q := fun _ h => h
  have hbA : ¬ (fun q : Nat => s.heap.size ≤ q) b := Nat.not_le.mpr hbl
  refine lv_aload_n hx hb dL_law_282 rfl (lv_at hl 1 rfl) ?_
  refine lv_aload_n hx hb dL_law_283 rfl (lv_at hl 0 rfl) ?_
  refine lv_iload_n hx hb dL_law_284 rfl (lv_at hl 3 rfl) ?_
  refine lv_iconst (v := nI 1) hx hb dL_law_285 (by decide +kernel) ?_
  refine lv_iadd hx hb dL_law_286 ?_
  refine ld_topi (y := nI (i + 1)) (nI_add _ _) ?_
  refine ld_sld (i := i + 1) hx hb hX hbl hbA hS (by omega) (by omega) dL_law_287 ?_
  refine lv_aload_n hx hb dL_law_288 rfl (lv_at hl 0 rfl) ?_
  refine lv_iload_n hx hb dL_law_289 rfl (lv_at hl 3 rfl) ?_
  refine lv_iconst (v := nI 2) hx hb dL_law_290 (by decide +kernel) ?_
  refine lv_iadd hx hb dL_law_291 ?_
  refine ld_topi (y := nI (i + 2)) (nI_add _ _) ?_
  refine ld_sld (i := i + 2) hx hb hX hbl hbA hS (by omega) (by omega) dL_law_292 ?_
  have hPc := hP.sub (ws' := [ld_O h1 0 a1, ld_A a1 d1 f]) [0, 1] rfl
  have hDc := hD.sub (ws' := [ld_O h1 0 a1, ld_A a1 d1 f]) [0, 1] (by decide) rfl
  have hKc := hK.sub (tys' := [(d1, .long)]) [0] rfl
  have hFc := va_free (wc := [ld_O h1 0 a1, ld_A a1 d1 f]) hD hS hA [0, 1] rfl
  refine va_calli (va_runV (As := [.int (xs (i + 1)), .int (xs (i + 2))]) (rest := []) ⟨hx, hb, hml, hown, hts⟩ (metX0_has l dC dI H.size h1 a1 d1 f (xs (i + 1)) (xs (i + 2))) (cwV 2 hts (lw_V q219 q220 q221 q5 q222) rfl rfl rfl (by decide +kernel) ⟨Nat.le_of_ble_eq_true rfl, Nat.le_of_ble_eq_true rfl⟩) ⟨fun a U g mk q => by obtain ⟨q0, q1, qP, qK, qD⟩ := q; exact ⟨q0, q1, qP, va_K.moved (u := U) (U := U.calling g mk a) (Vm.Alike.refl U.vm) qK, qD⟩, va_recv hK hP (ci := 0) (q0 := 0) rfl rfl, fun U hU hW => ⟨rfl, by rw [hU], by rw [hU]; exact hPc, va_K.moved hW.alike hKc, hDc.weaken (fun _ _ _ _ => trivial)⟩⟩ rfl rfl hl.1 rfl (lv_room (Nat.le_of_ble_eq_true rfl)) dL_law_293 ⟨by show cells + 0 ≤ 1200096; omega, by show slots + 0 ≤ 5501386; omega⟩) hS (fun q _ h => hFc q h) hFc (fun r1 u t H1 locs ht hvm hw1 hB hz1 hk1 hS => ?_)
  obtain ⟨hP1, hK1, hD1⟩ := hB
  rw [ht] at hP1
  have hK1 := va_K.moved hvm.symm hK1
  obtain ⟨hP, hD⟩ := va_join (wr := [ld_O h2 1 a2, ld_A a2 d2 g]) (w1 := [ld_O h1 0 a1, ld_A a1 d1 f]) hP hD [0, 1] [2, 3] rfl rfl (by decide) (by decide) hk1 hFc hP1 hD1
  have hK := (hK.sub (tys' := [(d2, .long)]) [1] rfl).app hK1
  generalize H1 = H at hP hS ⊢
  have hP := hP.sub (ws' := [ld_O h1 0 a1, ld_A a1 d1 f, ld_O h2 1 a2, ld_A a2 d2 g]) [2, 3, 0, 1] rfl
  have hD := hD.sub (ws' := [ld_O h1 0 a1, ld_A a1 d1 f, ld_O h2 1 a2, ld_A a2 d2 g]) [2, 3, 0, 1] (by decide) rfl
  have hK := hK.sub (tys' := [(d1, .long), (d2, .long)]) [1, 0] rfl
  have hP : va_P (dC, dI) ld_Cl [ld_O h1 0 a1, ld_A a1 d1 f, ld_O h2 1 a2, ld_A a2 d2 g] H := hP
  have hD : va_D (fun q : Nat => s.heap.size ≤ q) [ld_O h1 0 a1, ld_A a1 d1 f, ld_O h2 1 a2, ld_A a2 d2 g] := hD
  have hK : va_K (dC, dI) ld_Cl [(d1, .long), (d2, .long)] s := hK
  have hw1 : ld_has f (ld_wd (xs (i + 1)) (xs (i + 2))) r1 := hw1
  refine lv_aload_n hx hb dL_law_296 rfl (lv_at hl 2 rfl) ?_
  refine lv_aload_n hx hb dL_law_297 rfl (lv_at hl 0 rfl) ?_
  refine lv_iload_n hx hb dL_law_298 rfl (lv_at hl 3 rfl) ?_
  refine lv_iconst (v := nI 1) hx hb dL_law_299 (by decide +kernel) ?_
  refine lv_iadd hx hb dL_law_300 ?_
  refine ld_topi (y := nI (i + 1)) (nI_add _ _) ?_
  refine ld_sld (i := i + 1) hx hb hX hbl hbA hS (by omega) (by omega) dL_law_301 ?_
  refine lv_aload_n hx hb dL_law_302 rfl (lv_at hl 0 rfl) ?_
  refine lv_iload_n hx hb dL_law_303 rfl (lv_at hl 3 rfl) ?_
  refine lv_iconst (v := nI 2) hx hb dL_law_304 (by decide +kernel) ?_
  refine lv_iadd hx hb dL_law_305 ?_
  refine ld_topi (y := nI (i + 2)) (nI_add _ _) ?_
  refine ld_sld (i := i + 2) hx hb hX hbl hbA hS (by omega) (by omega) dL_law_306 ?_
  have hPc := hP.sub (ws' := [ld_O h2 1 a2, ld_A a2 d2 g]) [2, 3] rfl
  have hDc := hD.sub (ws' := [ld_O h2 1 a2, ld_A a2 d2 g]) [2, 3] (by decide) rfl
  have hKc := hK.sub (tys' := [(d2, .long)]) [1] rfl
  have hFc := va_free (wc := [ld_O h2 1 a2, ld_A a2 d2 g]) hD hS hA [2, 3] rfl
  refine va_calli (va_runV (As := [.int (xs (i + 1)), .int (xs (i + 2))]) (rest := [.int r1]) ⟨hx, hb, hml, hown, hts⟩ (metX1_has l dC dI H.size h2 a2 d2 g (xs (i + 1)) (xs (i + 2))) (cwV 2 hts (lw_V q308 q309 q310 q6 q311) rfl rfl rfl (by decide +kernel) ⟨Nat.le_of_ble_eq_true rfl, Nat.le_of_ble_eq_true rfl⟩) ⟨fun a U g mk q => by obtain ⟨q0, q1, qP, qK, qD⟩ := q; exact ⟨q0, q1, qP, va_K.moved (u := U) (U := U.calling g mk a) (Vm.Alike.refl U.vm) qK, qD⟩, va_recv hK hP (ci := 1) (q0 := 2) rfl rfl, fun U hU hW => ⟨rfl, by rw [hU], by rw [hU]; exact hPc, va_K.moved hW.alike hKc, hDc.weaken (fun _ _ _ _ => trivial)⟩⟩ rfl rfl hl.1 rfl (lv_room (Nat.le_of_ble_eq_true rfl)) dL_law_307 ⟨by show cells + 0 + 0 ≤ 1200096; omega, by show slots + 0 + 0 ≤ 5501386; omega⟩) hS (fun q _ h => hFc q h) hFc (fun r2 u t H1 locs ht hvm hw2 hB hz1 hk1 hS => ?_)
  obtain ⟨hP1, hK1, hD1⟩ := hB
  rw [ht] at hP1
  have hK1 := va_K.moved hvm.symm hK1
  obtain ⟨hP, hD⟩ := va_join (wr := [ld_O h1 0 a1, ld_A a1 d1 f]) (w1 := [ld_O h2 1 a2, ld_A a2 d2 g]) hP hD [2, 3] [0, 1] rfl rfl (by decide) (by decide) hk1 hFc hP1 hD1
  have hK := (hK.sub (tys' := [(d1, .long)]) [0] rfl).app hK1
  generalize H1 = H at hP hS ⊢
  have hP : va_P (dC, dI) ld_Cl [ld_O h1 0 a1, ld_A a1 d1 f, ld_O h2 1 a2, ld_A a2 d2 g] H := hP
  have hD : va_D (fun q : Nat => s.heap.size ≤ q) [ld_O h1 0 a1, ld_A a1 d1 f, ld_O h2 1 a2, ld_A a2 d2 g] := hD
  have hK : va_K (dC, dI) ld_Cl [(d1, .long), (d2, .long)] s := hK
  have hw2 : ld_has g (ld_wd (xs (i + 1)) (xs (i + 2))) r2 := hw2
  have heq : r1 = r2 := ld_has_eq hfg hw1 hw2
  refine lv_icmp_eq (tgt := 426) hx hb dL_law_310 (by decide) (fun c_6 => ?_) (fun c_6 => ?_)
  · refine W.widen (k := cells + 1) (n := slots + 12) (by omega) (by omega) ?_
    exact kk f g hfg _ _ hP hD hS ls hl
  · exact absurd heq c_6
set_option maxHeartbeats 4000000 in
set_option maxRecDepth 100000 in
/-- the law, case 8: ofBytes -/
theorem ld_case8 {p : Program} {l : Launch} {e : Env} {s : State} {m : MethodId} {below : List Frame} {meth : Method} {c : Code} {dC : Nat → ClassId} {dI : Nat → Nat → Nat} {b L : Nat} {xs : Nat → Int32} {qs h1 a1 h2 a2 : Nat} {d1 d2 : ClassId} (hL : L ≤ 288) (hx : p.tables.exec = Jvm.exec) (hb : c.code = code) (hml : c.maxLocals = 4) (hown : s.vm.findClass R_law = some m.cls) (hts : ∀ w ∈ lw_all, w.before #[Value.ref b] s = true) (hX : va_X b L xs s s.heap) (hbl : b < s.heap.size) (hZ : vk_R "Longs" 16 ld_tx qs s) (hK : va_K (dC, dI) ld_Cl [(d1, .long), (d2, .long)] s) {Z : State → Prop} (f g : Nat → Int64) (hfg : ∀ j, j < 12 → f j = g j) (i : Nat) (hi : i + 6 ≤ L) (cells slots : Nat) (hc : cells + 1 ≤ 1200096) (hs : slots + 12 ≤ 5501386) (H : Heap) (locs : List Loc) (hP : va_P (dC, dI) ld_Cl [ld_O h1 0 a1, ld_A a1 d1 f, ld_O h2 1 a2, ld_A a2 d2 g] H) (hD : va_D (fun q : Nat => s.heap.size ≤ q) [ld_O h1 0 a1, ld_A a1 d1 f, ld_O h2 1 a2, ld_A a2 d2 g]) (hS : va_S (fun q : Nat => s.heap.size ≤ q) s.heap H locs) (ls : Array Slot) (hl : lv_has ls 4 [(0, .ref b), (1, .ref h1), (2, .ref h2), (3, .int (nI i))]) (kk : ∀ (f g : Nat → Int64), (∀ j, j < 12 → f j = g j) → ∀ (H : Heap) (locs : List Loc), va_P (dC, dI) ld_Cl [ld_O h1 0 a1, ld_A a1 d1 f, ld_O h2 1 a2, ld_A a2 d2 g] H → va_D (fun q : Nat => s.heap.size ≤ q) [ld_O h1 0 a1, ld_A a1 d1 f, ld_O h2 1 a2, ld_A a2 d2 g] → va_S (fun q : Nat => s.heap.size ≤ q) s.heap H locs → ∀ (ls : Array Slot), lv_has ls 4 [(0, .ref b), (1, .ref h1), (2, .ref h2), (3, .int (nI i))] → W p l e room_1 s m #[Value.ref b] below meth c H locs (cells + 1) (slots + 12) Z (F0 m 426 ls [])) : W p l e room_1 s m #[Value.ref b] below meth c H locs (cells) (slots) Z (F0 m 315 ls []) := by
  have hA : ∀ q : Nat, s.heap.size ≤ q → (fun q : Nat => s.heap.size ≤ q) q := fun _ h => h
  have hbA : ¬ (fun q : Nat => s.heap.size ≤ q) b := Nat.not_le.mpr hbl
  refine lv_aload_n hx hb dL_law_315 rfl (lv_at hl 1 rfl) ?_
  refine lv_aload_n hx hb dL_law_316 rfl (lv_at hl 0 rfl) ?_
  refine lv_iload_n hx hb dL_law_317 rfl (lv_at hl 3 rfl) ?_
  refine lv_iconst (v := nI 1) hx hb dL_law_318 (by decide +kernel) ?_
  refine lv_iadd hx hb dL_law_319 ?_
  refine ld_topi (y := nI (i + 1)) (nI_add _ _) ?_
  refine ld_sld (i := i + 1) hx hb hX hbl hbA hS (by omega) (by omega) dL_law_320 ?_
  refine lv_aload_n hx hb dL_law_321 rfl (lv_at hl 0 rfl) ?_
  refine lv_iload_n hx hb dL_law_322 rfl (lv_at hl 3 rfl) ?_
  refine lv_iconst (v := nI 2) hx hb dL_law_323 (by decide +kernel) ?_
  refine lv_iadd hx hb dL_law_324 ?_
  refine ld_topi (y := nI (i + 2)) (nI_add _ _) ?_
  refine ld_sld (i := i + 2) hx hb hX hbl hbA hS (by omega) (by omega) dL_law_325 ?_
  have hPc := hP.sub (ws' := [ld_O h1 0 a1, ld_A a1 d1 f]) [0, 1] rfl
  have hDc := hD.sub (ws' := [ld_O h1 0 a1, ld_A a1 d1 f]) [0, 1] (by decide) rfl
  have hKc := hK.sub (tys' := [(d1, .long)]) [0] rfl
  have hFc := va_free (wc := [ld_O h1 0 a1, ld_A a1 d1 f]) hD hS hA [0, 1] rfl
  refine va_calll (va_runV (As := [.int (xs (i + 1)), .int (xs (i + 2))]) (rest := []) ⟨hx, hb, hml, hown, hts⟩ (metX0_ofBytes l dC dI H.size h1 a1 d1 f (xs (i + 1)) (xs (i + 2))) (cwV 2 hts (lw_V q226 q227 q228 q5 q229) rfl rfl rfl (by decide +kernel) ⟨Nat.le_of_ble_eq_true rfl, Nat.le_of_ble_eq_true rfl⟩) ⟨fun a U g mk q => by obtain ⟨q0, q1, qP, qK, qD⟩ := q; exact ⟨q0, q1, qP, va_K.moved (u := U) (U := U.calling g mk a) (Vm.Alike.refl U.vm) qK, qD⟩, va_recv hK hP (ci := 0) (q0 := 0) rfl rfl, fun U hU hW => ⟨rfl, by rw [hU], by rw [hU]; exact hPc, va_K.moved hW.alike hKc, hDc.weaken (fun _ _ _ _ => trivial)⟩⟩ rfl rfl hl.1 rfl (lv_room (Nat.le_of_ble_eq_true rfl)) dL_law_326 ⟨by show cells + 0 ≤ 1200096; omega, by show slots + 0 ≤ 5501386; omega⟩) hS (fun q _ h => hFc q h) hFc (fun r1 u t H1 locs ht hvm hw1 hB hz1 hk1 hS => ?_)
  obtain ⟨hP1, hK1, hD1⟩ := hB
  rw [ht] at hP1
  have hK1 := va_K.moved hvm.symm hK1
  obtain ⟨hP, hD⟩ := va_join (wr := [ld_O h2 1 a2, ld_A a2 d2 g]) (w1 := [ld_O h1 0 a1, ld_A a1 d1 f]) hP hD [0, 1] [2, 3] rfl rfl (by decide) (by decide) hk1 hFc hP1 hD1
  have hK := (hK.sub (tys' := [(d2, .long)]) [1] rfl).app hK1
  generalize H1 = H at hP hS ⊢
  have hP := hP.sub (ws' := [ld_O h1 0 a1, ld_A a1 d1 f, ld_O h2 1 a2, ld_A a2 d2 g]) [2, 3, 0, 1] rfl
  have hD := hD.sub (ws' := [ld_O h1 0 a1, ld_A a1 d1 f, ld_O h2 1 a2, ld_A a2 d2 g]) [2, 3, 0, 1] (by decide) rfl
  have hK := hK.sub (tys' := [(d1, .long), (d2, .long)]) [1, 0] rfl
  have hP : va_P (dC, dI) ld_Cl [ld_O h1 0 a1, ld_A a1 d1 f, ld_O h2 1 a2, ld_A a2 d2 g] H := hP
  have hD : va_D (fun q : Nat => s.heap.size ≤ q) [ld_O h1 0 a1, ld_A a1 d1 f, ld_O h2 1 a2, ld_A a2 d2 g] := hD
  have hK : va_K (dC, dI) ld_Cl [(d1, .long), (d2, .long)] s := hK
  have hw1 : r1 = ld_wd (xs (i + 1)) (xs (i + 2)) := hw1
  refine lv_aload_n hx hb dL_law_329 rfl (lv_at hl 2 rfl) ?_
  refine lv_aload_n hx hb dL_law_330 rfl (lv_at hl 0 rfl) ?_
  refine lv_iload_n hx hb dL_law_331 rfl (lv_at hl 3 rfl) ?_
  refine lv_iconst (v := nI 1) hx hb dL_law_332 (by decide +kernel) ?_
  refine lv_iadd hx hb dL_law_333 ?_
  refine ld_topi (y := nI (i + 1)) (nI_add _ _) ?_
  refine ld_sld (i := i + 1) hx hb hX hbl hbA hS (by omega) (by omega) dL_law_334 ?_
  refine lv_aload_n hx hb dL_law_335 rfl (lv_at hl 0 rfl) ?_
  refine lv_iload_n hx hb dL_law_336 rfl (lv_at hl 3 rfl) ?_
  refine lv_iconst (v := nI 2) hx hb dL_law_337 (by decide +kernel) ?_
  refine lv_iadd hx hb dL_law_338 ?_
  refine ld_topi (y := nI (i + 2)) (nI_add _ _) ?_
  refine ld_sld (i := i + 2) hx hb hX hbl hbA hS (by omega) (by omega) dL_law_339 ?_
  have hPc := hP.sub (ws' := [ld_O h2 1 a2, ld_A a2 d2 g]) [2, 3] rfl
  have hDc := hD.sub (ws' := [ld_O h2 1 a2, ld_A a2 d2 g]) [2, 3] (by decide) rfl
  have hKc := hK.sub (tys' := [(d2, .long)]) [1] rfl
  have hFc := va_free (wc := [ld_O h2 1 a2, ld_A a2 d2 g]) hD hS hA [2, 3] rfl
  refine va_calll (va_runV (As := [.int (xs (i + 1)), .int (xs (i + 2))]) (rest := [.long r1]) ⟨hx, hb, hml, hown, hts⟩ (metX1_ofBytes l dC dI H.size h2 a2 d2 g (xs (i + 1)) (xs (i + 2))) (cwV 2 hts (lw_V q313 q314 q315 q6 q316) rfl rfl rfl (by decide +kernel) ⟨Nat.le_of_ble_eq_true rfl, Nat.le_of_ble_eq_true rfl⟩) ⟨fun a U g mk q => by obtain ⟨q0, q1, qP, qK, qD⟩ := q; exact ⟨q0, q1, qP, va_K.moved (u := U) (U := U.calling g mk a) (Vm.Alike.refl U.vm) qK, qD⟩, va_recv hK hP (ci := 1) (q0 := 2) rfl rfl, fun U hU hW => ⟨rfl, by rw [hU], by rw [hU]; exact hPc, va_K.moved hW.alike hKc, hDc.weaken (fun _ _ _ _ => trivial)⟩⟩ rfl rfl hl.1 rfl (lv_room (Nat.le_of_ble_eq_true rfl)) dL_law_340 ⟨by show cells + 0 + 0 ≤ 1200096; omega, by show slots + 0 + 0 ≤ 5501386; omega⟩) hS (fun q _ h => hFc q h) hFc (fun r2 u t H1 locs ht hvm hw2 hB hz1 hk1 hS => ?_)
  obtain ⟨hP1, hK1, hD1⟩ := hB
  rw [ht] at hP1
  have hK1 := va_K.moved hvm.symm hK1
  obtain ⟨hP, hD⟩ := va_join (wr := [ld_O h1 0 a1, ld_A a1 d1 f]) (w1 := [ld_O h2 1 a2, ld_A a2 d2 g]) hP hD [2, 3] [0, 1] rfl rfl (by decide) (by decide) hk1 hFc hP1 hD1
  have hK := (hK.sub (tys' := [(d1, .long)]) [0] rfl).app hK1
  generalize H1 = H at hP hS ⊢
  have hP : va_P (dC, dI) ld_Cl [ld_O h1 0 a1, ld_A a1 d1 f, ld_O h2 1 a2, ld_A a2 d2 g] H := hP
  have hD : va_D (fun q : Nat => s.heap.size ≤ q) [ld_O h1 0 a1, ld_A a1 d1 f, ld_O h2 1 a2, ld_A a2 d2 g] := hD
  have hK : va_K (dC, dI) ld_Cl [(d1, .long), (d2, .long)] s := hK
  have hw2 : r2 = ld_wd (xs (i + 1)) (xs (i + 2)) := hw2
  have heq : r1 = r2 := hw1.trans hw2.symm
  refine W.lcmp hx hb dL_law_343 ?_
  refine lv_if_eq (tgt := 426) hx hb dL_law_344 (by decide) (fun c_7 => ?_) (fun c_7 => ?_)
  · refine W.widen (k := cells + 1) (n := slots + 12) (by omega) (by omega) ?_
    exact kk f g hfg _ _ hP hD hS ls hl
  · exact absurd (ld_ne_cmp heq) c_7
end
section
/-! the law's cases 9 to 10 -/
set_option maxRecDepth 100000
set_option maxHeartbeats 4000000 in
set_option maxRecDepth 100000 in
/-- the law, case 9: letter -/
theorem ld_case9 {p : Program} {l : Launch} {e : Env} {s : State} {m : MethodId} {below : List Frame} {meth : Method} {c : Code} {dC : Nat → ClassId} {dI : Nat → Nat → Nat} {b L : Nat} {xs : Nat → Int32} {qs h1 a1 h2 a2 : Nat} {d1 d2 : ClassId} (hL : L ≤ 288) (hx : p.tables.exec = Jvm.exec) (hb : c.code = code) (hml : c.maxLocals = 4) (hown : s.vm.findClass R_law = some m.cls) (hts : ∀ w ∈ lw_all, w.before #[Value.ref b] s = true) (hX : va_X b L xs s s.heap) (hbl : b < s.heap.size) (hZ : vk_R "Longs" 16 ld_tx qs s) (hK : va_K (dC, dI) ld_Cl [(d1, .long), (d2, .long)] s) {Z : State → Prop} (f g : Nat → Int64) (hfg : ∀ j, j < 12 → f j = g j) (i : Nat) (hi : i + 6 ≤ L) (cells slots : Nat) (hc : cells + 1 ≤ 1200096) (hs : slots + 12 ≤ 5501386) (H : Heap) (locs : List Loc) (hP : va_P (dC, dI) ld_Cl [ld_O h1 0 a1, ld_A a1 d1 f, ld_O h2 1 a2, ld_A a2 d2 g] H) (hD : va_D (fun q : Nat => s.heap.size ≤ q) [ld_O h1 0 a1, ld_A a1 d1 f, ld_O h2 1 a2, ld_A a2 d2 g]) (hS : va_S (fun q : Nat => s.heap.size ≤ q) s.heap H locs) (ls : Array Slot) (hl : lv_has ls 4 [(0, .ref b), (1, .ref h1), (2, .ref h2), (3, .int (nI i))]) (kk : ∀ (f g : Nat → Int64), (∀ j, j < 12 → f j = g j) → ∀ (H : Heap) (locs : List Loc), va_P (dC, dI) ld_Cl [ld_O h1 0 a1, ld_A a1 d1 f, ld_O h2 1 a2, ld_A a2 d2 g] H → va_D (fun q : Nat => s.heap.size ≤ q) [ld_O h1 0 a1, ld_A a1 d1 f, ld_O h2 1 a2, ld_A a2 d2 g] → va_S (fun q : Nat => s.heap.size ≤ q) s.heap H locs → ∀ (ls : Array Slot), lv_has ls 4 [(0, .ref b), (1, .ref h1), (2, .ref h2), (3, .int (nI i))] → W p l e room_1 s m #[Value.ref b] below meth c H locs (cells + 1) (slots + 12) Z (F0 m 426 ls [])) : W p l e room_1 s m #[Value.ref b] below meth c H locs (cells) (slots) Z (F0 m 349 ls []) := by
  have hA : ∀ q : Nat, s.heap.size ≤ q → (fun q : Nat => s.heap.size ≤ q) q := fun _ h => h
  have hbA : ¬ (fun q : Nat => s.heap.size ≤ q) b := Nat.not_le.mpr hbl
  refine lv_aload_n hx hb dL_law_349 rfl (lv_at hl 1 rfl) ?_
  refine lv_aload_n hx hb dL_law_350 rfl (lv_at hl 0 rfl) ?_
  refine lv_iload_n hx hb dL_law_351 rfl (lv_at hl 3 rfl) ?_
  refine lv_iconst (v := nI 1) hx hb dL_law_352 (by decide +kernel) ?_
  refine lv_iadd hx hb dL_law_353 ?_
  refine ld_topi (y := nI (i + 1)) (nI_add _ _) ?_
  refine ld_sld (i := i + 1) hx hb hX hbl hbA hS (by omega) (by omega) dL_law_354 ?_
  refine lv_aload_n hx hb dL_law_355 rfl (lv_at hl 0 rfl) ?_
  refine lv_iload_n hx hb dL_law_356 rfl (lv_at hl 3 rfl) ?_
  refine lv_iconst (v := nI 2) hx hb dL_law_357 (by decide +kernel) ?_
  refine lv_iadd hx hb dL_law_358 ?_
  refine ld_topi (y := nI (i + 2)) (nI_add _ _) ?_
  refine ld_sld (i := i + 2) hx hb hX hbl hbA hS (by omega) (by omega) dL_law_359 ?_
  have hPc := hP.sub (ws' := [ld_O h1 0 a1, ld_A a1 d1 f]) [0, 1] rfl
  have hDc := hD.sub (ws' := [ld_O h1 0 a1, ld_A a1 d1 f]) [0, 1] (by decide) rfl
  have hKc := hK.sub (tys' := [(d1, .long)]) [0] rfl
  have hFc := va_free (wc := [ld_O h1 0 a1, ld_A a1 d1 f]) hD hS hA [0, 1] rfl
  refine va_calli (va_runV (As := [.int (xs (i + 1)), .int (xs (i + 2))]) (rest := []) ⟨hx, hb, hml, hown, hts⟩ (metX0_letter l dC dI H.size h1 a1 d1 f (xs (i + 1)) (xs (i + 2))) (cwV 2 hts (lw_V q234 q235 q236 q5 q237) rfl rfl rfl (by decide +kernel) ⟨Nat.le_of_ble_eq_true rfl, Nat.le_of_ble_eq_true rfl⟩) ⟨fun a U g mk q => by obtain ⟨q0, q1, qP, qK, qD⟩ := q; exact ⟨q0, q1, qP, va_K.moved (u := U) (U := U.calling g mk a) (Vm.Alike.refl U.vm) qK, qD⟩, va_recv hK hP (ci := 0) (q0 := 0) rfl rfl, fun U hU hW => ⟨rfl, by rw [hU], by rw [hU]; exact hPc, va_K.moved hW.alike hKc, hDc.weaken (fun _ _ _ _ => trivial)⟩⟩ rfl rfl hl.1 rfl (lv_room (Nat.le_of_ble_eq_true rfl)) dL_law_360 ⟨by show cells + 1 ≤ 1200096; omega, by show slots + 8 ≤ 5501386; omega⟩) hS (fun q _ h => hFc q h) hFc (fun r1 u t H1 locs ht hvm hw1 hB hz1 hk1 hS => ?_)
  obtain ⟨hP1, hK1, hD1⟩ := hB
  rw [ht] at hP1
  have hK1 := va_K.moved hvm.symm hK1
  obtain ⟨hP, hD⟩ := va_join (wr := [ld_O h2 1 a2, ld_A a2 d2 g]) (w1 := [ld_O h1 0 a1, ld_A a1 d1 f]) hP hD [0, 1] [2, 3] rfl rfl (by decide) (by decide) hk1 hFc hP1 hD1
  have hK := (hK.sub (tys' := [(d2, .long)]) [1] rfl).app hK1
  generalize H1 = H at hP hS ⊢
  have hP := hP.sub (ws' := [ld_O h1 0 a1, ld_A a1 d1 f, ld_O h2 1 a2, ld_A a2 d2 g]) [2, 3, 0, 1] rfl
  have hD := hD.sub (ws' := [ld_O h1 0 a1, ld_A a1 d1 f, ld_O h2 1 a2, ld_A a2 d2 g]) [2, 3, 0, 1] (by decide) rfl
  have hK := hK.sub (tys' := [(d1, .long), (d2, .long)]) [1, 0] rfl
  have hP : va_P (dC, dI) ld_Cl [ld_O h1 0 a1, ld_A a1 d1 f, ld_O h2 1 a2, ld_A a2 d2 g] H := hP
  have hD : va_D (fun q : Nat => s.heap.size ≤ q) [ld_O h1 0 a1, ld_A a1 d1 f, ld_O h2 1 a2, ld_A a2 d2 g] := hD
  have hK : va_K (dC, dI) ld_Cl [(d1, .long), (d2, .long)] s := hK
  have hw1 : r1 = nI (ld_b8 (f (ld_pl (xs (i + 1)))) ((xs (i + 2)).toBitVec.toNat % 8)) := hw1
  refine lv_aload_n hx hb dL_law_363 rfl (lv_at hl 2 rfl) ?_
  refine lv_aload_n hx hb dL_law_364 rfl (lv_at hl 0 rfl) ?_
  refine lv_iload_n hx hb dL_law_365 rfl (lv_at hl 3 rfl) ?_
  refine lv_iconst (v := nI 1) hx hb dL_law_366 (by decide +kernel) ?_
  refine lv_iadd hx hb dL_law_367 ?_
  refine ld_topi (y := nI (i + 1)) (nI_add _ _) ?_
  refine ld_sld (i := i + 1) hx hb hX hbl hbA hS (by omega) (by omega) dL_law_368 ?_
  refine lv_aload_n hx hb dL_law_369 rfl (lv_at hl 0 rfl) ?_
  refine lv_iload_n hx hb dL_law_370 rfl (lv_at hl 3 rfl) ?_
  refine lv_iconst (v := nI 2) hx hb dL_law_371 (by decide +kernel) ?_
  refine lv_iadd hx hb dL_law_372 ?_
  refine ld_topi (y := nI (i + 2)) (nI_add _ _) ?_
  refine ld_sld (i := i + 2) hx hb hX hbl hbA hS (by omega) (by omega) dL_law_373 ?_
  have hPc := hP.sub (ws' := [ld_O h2 1 a2, ld_A a2 d2 g]) [2, 3] rfl
  have hDc := hD.sub (ws' := [ld_O h2 1 a2, ld_A a2 d2 g]) [2, 3] (by decide) rfl
  have hKc := hK.sub (tys' := [(d2, .long)]) [1] rfl
  have hFc := va_free (wc := [ld_O h2 1 a2, ld_A a2 d2 g]) hD hS hA [2, 3] rfl
  refine va_calli (va_runV (As := [.int (xs (i + 1)), .int (xs (i + 2))]) (rest := [.int r1]) ⟨hx, hb, hml, hown, hts⟩ (metX1_letter l dC dI H.size h2 a2 d2 g (xs (i + 1)) (xs (i + 2))) (cwV 2 hts (lw_V q318 q319 q320 q6 q321) rfl rfl rfl (by decide +kernel) ⟨Nat.le_of_ble_eq_true rfl, Nat.le_of_ble_eq_true rfl⟩) ⟨fun a U g mk q => by obtain ⟨q0, q1, qP, qK, qD⟩ := q; exact ⟨q0, q1, qP, va_K.moved (u := U) (U := U.calling g mk a) (Vm.Alike.refl U.vm) qK, qD⟩, va_recv hK hP (ci := 1) (q0 := 2) rfl rfl, fun U hU hW => ⟨rfl, by rw [hU], by rw [hU]; exact hPc, va_K.moved hW.alike hKc, hDc.weaken (fun _ _ _ _ => trivial)⟩⟩ rfl rfl hl.1 rfl (lv_room (Nat.le_of_ble_eq_true rfl)) dL_law_374 ⟨by show cells + 1 + 0 ≤ 1200096; omega, by show slots + 8 + 0 ≤ 5501386; omega⟩) hS (fun q _ h => hFc q h) hFc (fun r2 u t H1 locs ht hvm hw2 hB hz1 hk1 hS => ?_)
  obtain ⟨hP1, hK1, hD1⟩ := hB
  rw [ht] at hP1
  have hK1 := va_K.moved hvm.symm hK1
  obtain ⟨hP, hD⟩ := va_join (wr := [ld_O h1 0 a1, ld_A a1 d1 f]) (w1 := [ld_O h2 1 a2, ld_A a2 d2 g]) hP hD [2, 3] [0, 1] rfl rfl (by decide) (by decide) hk1 hFc hP1 hD1
  have hK := (hK.sub (tys' := [(d1, .long)]) [0] rfl).app hK1
  generalize H1 = H at hP hS ⊢
  have hP : va_P (dC, dI) ld_Cl [ld_O h1 0 a1, ld_A a1 d1 f, ld_O h2 1 a2, ld_A a2 d2 g] H := hP
  have hD : va_D (fun q : Nat => s.heap.size ≤ q) [ld_O h1 0 a1, ld_A a1 d1 f, ld_O h2 1 a2, ld_A a2 d2 g] := hD
  have hK : va_K (dC, dI) ld_Cl [(d1, .long), (d2, .long)] s := hK
  have hw2 : r2 = nI (ld_b8 (g (ld_pl (xs (i + 1)))) ((xs (i + 2)).toBitVec.toNat % 8)) := hw2
  have heq : r1 = r2 := by rw [hw1, hw2, hfg _ (ld_pl_lt _)]
  refine lv_icmp_eq (tgt := 426) hx hb dL_law_377 (by decide) (fun c_8 => ?_) (fun c_8 => ?_)
  · refine W.widen (k := cells + 1) (n := slots + 12) (by omega) (by omega) ?_
    exact kk f g hfg _ _ hP hD hS ls hl
  · exact absurd heq c_8
set_option maxHeartbeats 4000000 in
set_option maxRecDepth 100000 in
/-- the law, case 10: within -/
theorem ld_case10 {p : Program} {l : Launch} {e : Env} {s : State} {m : MethodId} {below : List Frame} {meth : Method} {c : Code} {dC : Nat → ClassId} {dI : Nat → Nat → Nat} {b L : Nat} {xs : Nat → Int32} {qs h1 a1 h2 a2 : Nat} {d1 d2 : ClassId} (hL : L ≤ 288) (hx : p.tables.exec = Jvm.exec) (hb : c.code = code) (hml : c.maxLocals = 4) (hown : s.vm.findClass R_law = some m.cls) (hts : ∀ w ∈ lw_all, w.before #[Value.ref b] s = true) (hX : va_X b L xs s s.heap) (hbl : b < s.heap.size) (hZ : vk_R "Longs" 16 ld_tx qs s) (hK : va_K (dC, dI) ld_Cl [(d1, .long), (d2, .long)] s) {Z : State → Prop} (f g : Nat → Int64) (hfg : ∀ j, j < 12 → f j = g j) (i : Nat) (hi : i + 6 ≤ L) (cells slots : Nat) (hc : cells + 1 ≤ 1200096) (hs : slots + 12 ≤ 5501386) (H : Heap) (locs : List Loc) (hP : va_P (dC, dI) ld_Cl [ld_O h1 0 a1, ld_A a1 d1 f, ld_O h2 1 a2, ld_A a2 d2 g] H) (hD : va_D (fun q : Nat => s.heap.size ≤ q) [ld_O h1 0 a1, ld_A a1 d1 f, ld_O h2 1 a2, ld_A a2 d2 g]) (hS : va_S (fun q : Nat => s.heap.size ≤ q) s.heap H locs) (ls : Array Slot) (hl : lv_has ls 4 [(0, .ref b), (1, .ref h1), (2, .ref h2), (3, .int (nI i))]) (kk : ∀ (f g : Nat → Int64), (∀ j, j < 12 → f j = g j) → ∀ (H : Heap) (locs : List Loc), va_P (dC, dI) ld_Cl [ld_O h1 0 a1, ld_A a1 d1 f, ld_O h2 1 a2, ld_A a2 d2 g] H → va_D (fun q : Nat => s.heap.size ≤ q) [ld_O h1 0 a1, ld_A a1 d1 f, ld_O h2 1 a2, ld_A a2 d2 g] → va_S (fun q : Nat => s.heap.size ≤ q) s.heap H locs → ∀ (ls : Array Slot), lv_has ls 4 [(0, .ref b), (1, .ref h1), (2, .ref h2), (3, .int (nI i))] → W p l e room_1 s m #[Value.ref b] below meth c H locs (cells + 1) (slots + 12) Z (F0 m 426 ls [])) : W p l e room_1 s m #[Value.ref b] below meth c H locs (cells) (slots) Z (F0 m 382 ls []) := by
  have hA : ∀ q : Nat, s.heap.size ≤ q → (fun q : Nat => s.heap.size ≤ q) q := fun _ h => h
  have hbA : ¬ (fun q : Nat => s.heap.size ≤ q) b := Nat.not_le.mpr hbl
  refine lv_aload_n hx hb dL_law_382 rfl (lv_at hl 1 rfl) ?_
  refine lv_aload_n hx hb dL_law_383 rfl (lv_at hl 0 rfl) ?_
  refine lv_iload_n hx hb dL_law_384 rfl (lv_at hl 3 rfl) ?_
  refine lv_iconst (v := nI 1) hx hb dL_law_385 (by decide +kernel) ?_
  refine lv_iadd hx hb dL_law_386 ?_
  refine ld_topi (y := nI (i + 1)) (nI_add _ _) ?_
  refine ld_sld (i := i + 1) hx hb hX hbl hbA hS (by omega) (by omega) dL_law_387 ?_
  refine lv_aload_n hx hb dL_law_388 rfl (lv_at hl 0 rfl) ?_
  refine lv_iload_n hx hb dL_law_389 rfl (lv_at hl 3 rfl) ?_
  refine lv_iconst (v := nI 2) hx hb dL_law_390 (by decide +kernel) ?_
  refine lv_iadd hx hb dL_law_391 ?_
  refine ld_topi (y := nI (i + 2)) (nI_add _ _) ?_
  refine ld_sld (i := i + 2) hx hb hX hbl hbA hS (by omega) (by omega) dL_law_392 ?_
  refine lv_aload_n hx hb dL_law_393 rfl (lv_at hl 0 rfl) ?_
  refine lv_iload_n hx hb dL_law_394 rfl (lv_at hl 3 rfl) ?_
  refine lv_iconst (v := nI 3) hx hb dL_law_395 (by decide +kernel) ?_
  refine lv_iadd hx hb dL_law_396 ?_
  refine ld_topi (y := nI (i + 3)) (nI_add _ _) ?_
  refine ld_sld (i := i + 3) hx hb hX hbl hbA hS (by omega) (by omega) dL_law_397 ?_
  have hPc := hP.sub (ws' := [ld_O h1 0 a1, ld_A a1 d1 f]) [0, 1] rfl
  have hDc := hD.sub (ws' := [ld_O h1 0 a1, ld_A a1 d1 f]) [0, 1] (by decide) rfl
  have hKc := hK.sub (tys' := [(d1, .long)]) [0] rfl
  have hFc := va_free (wc := [ld_O h1 0 a1, ld_A a1 d1 f]) hD hS hA [0, 1] rfl
  refine va_calll (va_runV (As := [.int (xs (i + 1)), .int (xs (i + 2)), .int (xs (i + 3))]) (rest := []) ⟨hx, hb, hml, hown, hts⟩ (metX0_within l dC dI H.size h1 a1 d1 f qs (xs (i + 1)) (xs (i + 2)) (xs (i + 3))) (cwV 3 hts (lw_V q241 q242 q243 q5 q244) rfl rfl rfl (by decide +kernel) ⟨Nat.le_of_ble_eq_true rfl, Nat.le_of_ble_eq_true rfl⟩) ⟨fun a U g mk q => by obtain ⟨q0, ⟨q1, qP, qK, qD⟩, qZ⟩ := q; exact ⟨q0, ⟨q1, qP, va_K.moved (u := U) (U := U.calling g mk a) (Vm.Alike.refl U.vm) qK, qD⟩, vk_R.same (u := U) (U := U.calling g mk a) rfl qZ⟩, va_recv hK hP (ci := 0) (q0 := 0) rfl rfl, fun U hU hW => ⟨rfl, ⟨by rw [hU], by rw [hU]; exact hPc, va_K.moved hW.alike hKc, hDc.weaken (fun _ _ _ _ => trivial)⟩, vk_R.warm hW hZ⟩⟩ rfl rfl hl.1 rfl (lv_room (Nat.le_of_ble_eq_true rfl)) dL_law_398 ⟨by show cells + 0 ≤ 1200096; omega, by show slots + 0 ≤ 5501386; omega⟩) hS (fun q _ h => hFc q h) hFc (fun r1 u t H1 locs ht hvm hw1 hB hz1 hk1 hS => ?_)
  obtain ⟨hP1, hK1, hD1⟩ := hB
  rw [ht] at hP1
  have hK1 := va_K.moved hvm.symm hK1
  obtain ⟨hP, hD⟩ := va_join (wr := [ld_O h2 1 a2, ld_A a2 d2 g]) (w1 := [ld_O h1 0 a1, ld_A a1 d1 f]) hP hD [0, 1] [2, 3] rfl rfl (by decide) (by decide) hk1 hFc hP1 hD1
  have hK := (hK.sub (tys' := [(d2, .long)]) [1] rfl).app hK1
  generalize H1 = H at hP hS ⊢
  have hP := hP.sub (ws' := [ld_O h1 0 a1, ld_A a1 d1 f, ld_O h2 1 a2, ld_A a2 d2 g]) [2, 3, 0, 1] rfl
  have hD := hD.sub (ws' := [ld_O h1 0 a1, ld_A a1 d1 f, ld_O h2 1 a2, ld_A a2 d2 g]) [2, 3, 0, 1] (by decide) rfl
  have hK := hK.sub (tys' := [(d1, .long), (d2, .long)]) [1, 0] rfl
  have hP : va_P (dC, dI) ld_Cl [ld_O h1 0 a1, ld_A a1 d1 f, ld_O h2 1 a2, ld_A a2 d2 g] H := hP
  have hD : va_D (fun q : Nat => s.heap.size ≤ q) [ld_O h1 0 a1, ld_A a1 d1 f, ld_O h2 1 a2, ld_A a2 d2 g] := hD
  have hK : va_K (dC, dI) ld_Cl [(d1, .long), (d2, .long)] s := hK
  have hw1 : r1 = ld_wi (f (ld_pl (xs (i + 1)))) (f (ld_pl (xs (i + 2)))) (f (ld_pl (xs (i + 3)))) := hw1
  refine lv_aload_n hx hb dL_law_401 rfl (lv_at hl 2 rfl) ?_
  refine lv_aload_n hx hb dL_law_402 rfl (lv_at hl 0 rfl) ?_
  refine lv_iload_n hx hb dL_law_403 rfl (lv_at hl 3 rfl) ?_
  refine lv_iconst (v := nI 1) hx hb dL_law_404 (by decide +kernel) ?_
  refine lv_iadd hx hb dL_law_405 ?_
  refine ld_topi (y := nI (i + 1)) (nI_add _ _) ?_
  refine ld_sld (i := i + 1) hx hb hX hbl hbA hS (by omega) (by omega) dL_law_406 ?_
  refine lv_aload_n hx hb dL_law_407 rfl (lv_at hl 0 rfl) ?_
  refine lv_iload_n hx hb dL_law_408 rfl (lv_at hl 3 rfl) ?_
  refine lv_iconst (v := nI 2) hx hb dL_law_409 (by decide +kernel) ?_
  refine lv_iadd hx hb dL_law_410 ?_
  refine ld_topi (y := nI (i + 2)) (nI_add _ _) ?_
  refine ld_sld (i := i + 2) hx hb hX hbl hbA hS (by omega) (by omega) dL_law_411 ?_
  refine lv_aload_n hx hb dL_law_412 rfl (lv_at hl 0 rfl) ?_
  refine lv_iload_n hx hb dL_law_413 rfl (lv_at hl 3 rfl) ?_
  refine lv_iconst (v := nI 3) hx hb dL_law_414 (by decide +kernel) ?_
  refine lv_iadd hx hb dL_law_415 ?_
  refine ld_topi (y := nI (i + 3)) (nI_add _ _) ?_
  refine ld_sld (i := i + 3) hx hb hX hbl hbA hS (by omega) (by omega) dL_law_416 ?_
  have hPc := hP.sub (ws' := [ld_O h2 1 a2, ld_A a2 d2 g]) [2, 3] rfl
  have hDc := hD.sub (ws' := [ld_O h2 1 a2, ld_A a2 d2 g]) [2, 3] (by decide) rfl
  have hKc := hK.sub (tys' := [(d2, .long)]) [1] rfl
  have hFc := va_free (wc := [ld_O h2 1 a2, ld_A a2 d2 g]) hD hS hA [2, 3] rfl
  refine va_calll (va_runV (As := [.int (xs (i + 1)), .int (xs (i + 2)), .int (xs (i + 3))]) (rest := [.long r1]) ⟨hx, hb, hml, hown, hts⟩ (metX1_within l dC dI H.size h2 a2 d2 g (xs (i + 1)) (xs (i + 2)) (xs (i + 3))) (cwV 3 hts (lw_V q324 q325 q326 q6 q327) rfl rfl rfl (by decide +kernel) ⟨Nat.le_of_ble_eq_true rfl, Nat.le_of_ble_eq_true rfl⟩) ⟨fun a U g mk q => by obtain ⟨q0, q1, qP, qK, qD⟩ := q; exact ⟨q0, q1, qP, va_K.moved (u := U) (U := U.calling g mk a) (Vm.Alike.refl U.vm) qK, qD⟩, va_recv hK hP (ci := 1) (q0 := 2) rfl rfl, fun U hU hW => ⟨rfl, by rw [hU], by rw [hU]; exact hPc, va_K.moved hW.alike hKc, hDc.weaken (fun _ _ _ _ => trivial)⟩⟩ rfl rfl hl.1 rfl (lv_room (Nat.le_of_ble_eq_true rfl)) dL_law_417 ⟨by show cells + 0 + 0 ≤ 1200096; omega, by show slots + 0 + 0 ≤ 5501386; omega⟩) hS (fun q _ h => hFc q h) hFc (fun r2 u t H1 locs ht hvm hw2 hB hz1 hk1 hS => ?_)
  obtain ⟨hP1, hK1, hD1⟩ := hB
  rw [ht] at hP1
  have hK1 := va_K.moved hvm.symm hK1
  obtain ⟨hP, hD⟩ := va_join (wr := [ld_O h1 0 a1, ld_A a1 d1 f]) (w1 := [ld_O h2 1 a2, ld_A a2 d2 g]) hP hD [2, 3] [0, 1] rfl rfl (by decide) (by decide) hk1 hFc hP1 hD1
  have hK := (hK.sub (tys' := [(d1, .long)]) [0] rfl).app hK1
  generalize H1 = H at hP hS ⊢
  have hP : va_P (dC, dI) ld_Cl [ld_O h1 0 a1, ld_A a1 d1 f, ld_O h2 1 a2, ld_A a2 d2 g] H := hP
  have hD : va_D (fun q : Nat => s.heap.size ≤ q) [ld_O h1 0 a1, ld_A a1 d1 f, ld_O h2 1 a2, ld_A a2 d2 g] := hD
  have hK : va_K (dC, dI) ld_Cl [(d1, .long), (d2, .long)] s := hK
  have hw2 : r2 = ld_wi (g (ld_pl (xs (i + 1)))) (g (ld_pl (xs (i + 2)))) (g (ld_pl (xs (i + 3)))) := hw2
  have heq : r1 = r2 := by rw [hw1, hw2, hfg _ (ld_pl_lt (xs (i + 1))), hfg _ (ld_pl_lt (xs (i + 2))), hfg _ (ld_pl_lt (xs (i + 3)))]
  refine W.lcmp hx hb dL_law_420 ?_
  refine lv_if_eq (tgt := 426) hx hb dL_law_421 (by decide) (fun c_9 => ?_) (fun c_9 => ?_)
  · refine W.widen (k := cells + 1) (n := slots + 12) (by omega) (by omega) ?_
    exact kk f g hfg _ _ hP hD hS ls hl
  · exact absurd (ld_ne_cmp heq) c_9
end
section
/-! the law's loop and its start -/
set_option maxRecDepth 100000
set_option maxHeartbeats 4000000 in
/-- THE LAW'S LOOP: k calls made, the two rows agree -/
theorem ld_loop {p : Program} {l : Launch} {e : Env} {s : State} {m : MethodId} {below : List Frame} {meth : Method} {c : Code} {dC : Nat → ClassId} {dI : Nat → Nat → Nat} {b L : Nat} {xs : Nat → Int32} {qs h1 a1 h2 a2 : Nat} {d1 d2 : ClassId} (hL : L ≤ 288) (hx : p.tables.exec = Jvm.exec) (hb : c.code = code) (hml : c.maxLocals = 4) (hown : s.vm.findClass R_law = some m.cls) (hts : ∀ w ∈ lw_all, w.before #[Value.ref b] s = true) (hX : va_X b L xs s s.heap) (hbl : b < s.heap.size) (hZ : vk_R "Longs" 16 ld_tx qs s) (hK : va_K (dC, dI) ld_Cl [(d1, .long), (d2, .long)] s) (hr : meth.sig.returnType = ret) (hlocks : meth.locks = false) : ∀ (n k : Nat), 49 < k + n → 6 * k ≤ L → ∀ (f g : Nat → Int64), (∀ j, j < 12 → f j = g j) → ∀ (H : Heap) (locs : List Loc), va_P (dC, dI) ld_Cl [ld_O h1 0 a1, ld_A a1 d1 f, ld_O h2 1 a2, ld_A a2 d2 g] H → va_D (fun q : Nat => s.heap.size ≤ q) [ld_O h1 0 a1, ld_A a1 d1 f, ld_O h2 1 a2, ld_A a2 d2 g] → va_S (fun q : Nat => s.heap.size ≤ q) s.heap H locs → ∀ (ls : Array Slot), lv_has ls 4 [(0, .ref b), (1, .ref h1), (2, .ref h2), (3, .int (nI ((6 * k))))] → W p l e room_1 s m #[Value.ref b] below meth c H locs (4 + k) (26 + 12 * k) (lw_Z below #[Value.ref b] s) (F0 m 18 ls []) := by
  have hA : ∀ q : Nat, s.heap.size ≤ q → (fun q : Nat => s.heap.size ≤ q) q := fun _ h => h
  have hbA : ¬ (fun q : Nat => s.heap.size ≤ q) b := Nat.not_le.mpr hbl
  intro n
  induction n with
  | zero => intro k k1 k2; exact absurd k1 (by omega)
  | succ n ih =>
    intro k k1 k2 f g hfg H locs hP hD hS ls hl
    refine lv_iload_n hx hb dL_law_18 rfl (lv_at hl 3 rfl) ?_
    refine lv_aload_n hx hb dL_law_19 rfl (lv_at hl 0 rfl) ?_
    refine va_slen hx hb hX hbl hbA hS dL_law_20 ?_
    refine ld_topi (y := nI L) rfl ?_
    refine lv_bipush (v := nI 6) hx hb dL_law_21 (by decide +kernel) ?_
    refine lv_isub hx hb dL_law_23 ?_
    refine lv_icmp_gt (tgt := 432) hx hb dL_law_24 (by decide) (fun c_10 => ?_) (fun c_10 => ?_)
    · refine lv_iconst (v := 1) hx hb dL_law_432 (by decide +kernel) ?_
      refine va_forget (fun q hq => hS.2.2 q hq) ?_
      refine W.widen (k := 1200096) (n := 5501386) (by omega) (by omega) ?_
      exact lw_ret hx hb hr hlocks dL_law_433
    · have hi : 6 * k + 6 ≤ L := by
        rcases Nat.lt_or_ge L (6 * k + 6) with z | z
        · exact absurd ((ld_lt6 hL (by omega)).mpr z) c_10
        · exact z
      have kk : ∀ (f g : Nat → Int64), (∀ j, j < 12 → f j = g j) → ∀ (H : Heap) (locs : List Loc), va_P (dC, dI) ld_Cl [ld_O h1 0 a1, ld_A a1 d1 f, ld_O h2 1 a2, ld_A a2 d2 g] H → va_D (fun q : Nat => s.heap.size ≤ q) [ld_O h1 0 a1, ld_A a1 d1 f, ld_O h2 1 a2, ld_A a2 d2 g] → va_S (fun q : Nat => s.heap.size ≤ q) s.heap H locs → ∀ (ls : Array Slot), lv_has ls 4 [(0, .ref b), (1, .ref h1), (2, .ref h2), (3, .int (nI ((6 * k))))] → W p l e room_1 s m #[Value.ref b] below meth c H locs (4 + k + 1) (26 + 12 * k + 12) (lw_Z below #[Value.ref b] s) (F0 m 426 ls []) := by
        intro f g hfg H locs hP hD hS ls hl
        refine lv_iinc (v := nI (6 * (k + 1))) (lv' := [(3, .int (nI (6 * (k + 1)))), (0, .ref b), (1, .ref h1), (2, .ref h2)]) hx hb dL_law_426 hl (k := 3) rfl ((ld_inc6 (6 * k)).trans (congrArg nI (by omega))) (by decide) rfl (fun ls hl => ?_)
        refine lv_goto (tgt := 18) hx hb dL_law_429 (by decide) ?_
        refine W.widen (k := 4 + (k + 1)) (n := 26 + 12 * (k + 1)) (by omega) (by omega) ?_
        exact ih (k + 1) (by omega) (by omega) f g hfg _ _ hP hD hS ls (lv_sub hl [1, 2, 3, 0] rfl)
      refine lv_aload_n hx hb dL_law_27 rfl (lv_at hl 0 rfl) ?_
      refine lv_iload_n hx hb dL_law_28 rfl (lv_at hl 3 rfl) ?_
      refine ld_sld (i := 6 * k) hx hb hX hbl hbA hS (by omega) (by omega) dL_law_29 ?_
      refine lv_bipush (v := nI 15) hx hb dL_law_30 (by decide +kernel) ?_
      refine lv_iand hx hb dL_law_32 ?_
      refine ld_topi (ld_and15 (xs (6 * k))) ?_
      obtain ⟨w, hw⟩ : ∃ w : Nat, w = (xs (6 * k)).toBitVec.toNat % 16 := ⟨_, rfl⟩
      have hw16 : w < 16 := by rw [hw]; exact Nat.mod_lt _ (by decide)
      rw [← hw]
      clear hw
      rcases ld_16 w with rfl | rfl | rfl | rfl | rfl | rfl | rfl | rfl | rfl | rfl | rfl | h10
      · refine lv_tableIn (off := 59) (tgt := 92) hx hb dL_law_33 (by decide +kernel) (by decide +kernel) (by decide +kernel) (by decide) ?_
        exact ld_case0 hL hx hb hml hown hts hX hbl hZ hK f g hfg (6 * k) hi (4 + k) (26 + 12 * k) (by omega) (by omega) H locs hP hD hS ls hl kk
      · refine lv_tableIn (off := 100) (tgt := 133) hx hb dL_law_33 (by decide +kernel) (by decide +kernel) (by decide +kernel) (by decide) ?_
        exact ld_case1 hL hx hb hml hown hts hX hbl hZ hK f g hfg (6 * k) hi (4 + k) (26 + 12 * k) (by omega) (by omega) H locs hP hD hS ls hl kk
      · refine lv_tableIn (off := 124) (tgt := 157) hx hb dL_law_33 (by decide +kernel) (by decide +kernel) (by decide +kernel) (by decide) ?_
        exact ld_case2 hL hx hb hml hown hts hX hbl hZ hK f g hfg (6 * k) hi (4 + k) (26 + 12 * k) (by omega) (by omega) H locs hP hD hS ls hl kk
      · refine lv_tableIn (off := 155) (tgt := 188) hx hb dL_law_33 (by decide +kernel) (by decide +kernel) (by decide +kernel) (by decide) ?_
        exact ld_case3 hL hx hb hml hown hts hX hbl hZ hK f g hfg (6 * k) hi (4 + k) (26 + 12 * k) (by omega) (by omega) H locs hP hD hS ls hl kk
      · refine lv_tableIn (off := 169) (tgt := 202) hx hb dL_law_33 (by decide +kernel) (by decide +kernel) (by decide +kernel) (by decide) ?_
        exact ld_case4 hL hx hb hml hown hts hX hbl hZ hK f g hfg (6 * k) hi (4 + k) (26 + 12 * k) (by omega) (by omega) H locs hP hD hS ls hl kk
      · refine lv_tableIn (off := 183) (tgt := 216) hx hb dL_law_33 (by decide +kernel) (by decide +kernel) (by decide +kernel) (by decide) ?_
        exact ld_case5 hL hx hb hml hown hts hX hbl hZ hK f g hfg (6 * k) hi (4 + k) (26 + 12 * k) (by omega) (by omega) H locs hP hD hS ls hl kk
      · refine lv_tableIn (off := 216) (tgt := 249) hx hb dL_law_33 (by decide +kernel) (by decide +kernel) (by decide +kernel) (by decide) ?_
        exact ld_case6 hL hx hb hml hown hts hX hbl hZ hK f g hfg (6 * k) hi (4 + k) (26 + 12 * k) (by omega) (by omega) H locs hP hD hS ls hl kk
      · refine lv_tableIn (off := 249) (tgt := 282) hx hb dL_law_33 (by decide +kernel) (by decide +kernel) (by decide +kernel) (by decide) ?_
        exact ld_case7 hL hx hb hml hown hts hX hbl hZ hK f g hfg (6 * k) hi (4 + k) (26 + 12 * k) (by omega) (by omega) H locs hP hD hS ls hl kk
      · refine lv_tableIn (off := 282) (tgt := 315) hx hb dL_law_33 (by decide +kernel) (by decide +kernel) (by decide +kernel) (by decide) ?_
        exact ld_case8 hL hx hb hml hown hts hX hbl hZ hK f g hfg (6 * k) hi (4 + k) (26 + 12 * k) (by omega) (by omega) H locs hP hD hS ls hl kk
      · refine lv_tableIn (off := 316) (tgt := 349) hx hb dL_law_33 (by decide +kernel) (by decide +kernel) (by decide +kernel) (by decide) ?_
        exact ld_case9 hL hx hb hml hown hts hX hbl hZ hK f g hfg (6 * k) hi (4 + k) (26 + 12 * k) (by omega) (by omega) H locs hP hD hS ls hl kk
      · refine lv_tableIn (off := 349) (tgt := 382) hx hb dL_law_33 (by decide +kernel) (by decide +kernel) (by decide +kernel) (by decide) ?_
        exact ld_case10 hL hx hb hml hown hts hX hbl hZ hK f g hfg (6 * k) hi (4 + k) (26 + 12 * k) (by omega) (by omega) H locs hP hD hS ls hl kk
      · refine lv_tableOut (tgt := 426) hx hb dL_law_33 (Or.inr (by rw [nI_toInt (by omega)]; omega)) (by decide) ?_
        refine W.widen (k := 4 + k + 1) (n := 26 + 12 * k + 12) (by omega) (by omega) ?_
        exact kk f g hfg _ _ hP hD hS ls hl
set_option maxHeartbeats 4000000 in
/-- THE LAW, from its entry -/
theorem whole_start {p : Program} {e : Env} {s : State} {m : MethodId} {below : List Frame} {meth : Method} {c : Code} (l : Launch) (hflags : l.flags = flags0) {b L : Nat} {xs : Nat → Int32} (hL : L ≤ 288) (C0 : lw_At p s m meth c b L xs) : W p l e room_1 s m #[Value.ref b] below meth c s.heap [] 0 0 (lw_Z below #[Value.ref b] s) (entryFrame m ([Value.ref b] : List Value).toArray 4) := by
  obtain ⟨hx, hb, hr, hml, hown, hts0, hX, hbl, hlocks, hgv⟩ := id C0
  have hts : ∀ w ∈ lw_all, w.before #[Value.ref b] s = true := fun w h => hts0 w (lw_all_tbl h)
  have hA : ∀ q : Nat, s.heap.size ≤ q → (fun q : Nat => s.heap.size ≤ q) q := fun _ h => h
  have hbA : ¬ (fun q : Nat => s.heap.size ≤ q) b := Nat.not_le.mpr hbl
  have hex : (Cond.exactly (.string "Longs" 16) "java/lang/String").before #[Value.ref b] s = true := flat_of_before _ hgv _ (by decide +kernel)
  obtain ⟨qs, -, -, -, hq1, -⟩ := Cond.exactly_spec (args := #[Value.ref b]) (first := s) (o := none) (s := s) (idx := []) hex
  have hZ : vk_R "Longs" 16 ld_tx qs s := vk_R.of (hts0 _ q248) hq1
  obtain ⟨c0_, iS0, hKn0⟩ := u_known (C := RX0) (T := TX0) (N := 1) (n := 1) hts0 (fun w h => lw_all_tbl (in_X0 w h)) (hts _ q17)
  obtain ⟨c1_, iS1, hKn1⟩ := u_known (C := RX1) (T := TX1) (N := 1) (n := 1) hts0 (fun w h => lw_all_tbl (in_X1 w h)) (hts _ q263)
  obtain ⟨dC, dI, hKc⟩ : ∃ (dC : Nat → ClassId) (dI : Nat → Nat → Nat), ∀ (k : Nat) (q : vw_C), ld_Cl[k]? = some q → u_Kn s q.1 q.2.1 q.2.2 (dC k) (dI k) := by
    refine ⟨fun k => if k = 0 then c0_ else c1_, fun k => if k = 0 then iS0 else iS1, ?_⟩
    intro k q hq
    match k, hq with
    | 0, hq => cases hq; exact hKn0
    | 1, hq => cases hq; exact hKn1
    | k + 2, hq => simp [ld_Cl] at hq
  have hS : va_S (fun q : Nat => s.heap.size ≤ q) s.heap s.heap [] := va_S.rf
  have hK : va_K (dC, dI) ld_Cl [] s := ⟨hKc, fun k q h => by simp at h⟩
  have hP : va_P (dC, dI) ld_Cl [] s.heap := fun k q h => by simp at h
  have hD : va_D (fun q : Nat => s.heap.size ≤ q) [] := ⟨fun i j p q h => by simp at h, fun k q h => by simp at h⟩
  have hl := lv_entry ([.ref b]) (n := 4) (Nat.le_of_ble_eq_true rfl)
  rw [lg_entry_eq]
  generalize (lg_sl ([.ref b]) ++ List.replicate (4 - (lg_sl ([.ref b])).length) Slot.unset).toArray = ls at hl ⊢
  have hl : lv_has ls 4 [(0, .ref b)] := hl
  refine va_new (ci := 0) (fs := [.null]) (C := RX0) (T := TX0) (N := 1) hx hb hts in_X0 tyX0 tyX0_ok hown (hts _ q16) (hts _ q17) (hts _ q5) hK hP hD hS hA rfl (fun j hj => by rcases (show j = 0 by omega) with rfl <;> rfl) (Nat.le_of_ble_eq_true rfl) (Nat.le_of_ble_eq_true rfl) dL_law_0 (fun h1 H hP hD hS => ?_)
  have hP : va_P (dC, dI) ld_Cl [(h1, .inr (0, [.null]))] H := hP
  have hD : va_D (fun q : Nat => s.heap.size ≤ q) [(h1, .inr (0, [.null]))] := hD
  refine lv_dup hx hb dL_law_3 rfl ?_
  have hPc := hP.sub (ws' := [(h1, .inr (0, [.null]))]) [0] rfl
  have hDc := hD.sub (ws' := [(h1, .inr (0, [.null]))]) [0] (by decide) rfl
  have hKc := hK.sub (tys' := []) [] rfl
  have hFc := va_free (wc := [(h1, .inr (0, [.null]))]) hD hS hA [0] rfl
  refine va_callv (va_runI (As := []) (rest := [.ref h1]) ⟨hx, hb, hml, hown, hts⟩ (metX0_init l dC dI H.size h1) (cwI 0 hts (lw_meth q20) rfl rfl rfl (hts _ q5) (hts _ q18) (hts _ q19) rfl (by decide +kernel) ⟨Nat.le_of_ble_eq_true rfl, Nat.le_of_ble_eq_true rfl⟩) ⟨fun a U g mk q => by obtain ⟨q0, q1, qP, qK, qD⟩ := q; exact ⟨q0, q1, qP, va_K.moved (u := U) (U := U.calling g mk a) (Vm.Alike.refl U.vm) qK, qD⟩, fun U hU hW => ⟨rfl, by rw [hU], by rw [hU]; exact hPc, va_K.moved hW.alike hKc, hDc.weaken (fun _ _ _ _ => trivial)⟩⟩ rfl rfl hl.1 rfl (lv_room (Nat.le_of_ble_eq_true rfl)) dL_law_4 ⟨Nat.le_of_ble_eq_true rfl, Nat.le_of_ble_eq_true rfl⟩) hS (fun q _ h => hFc q h) hFc (fun u t H1 locs ht hvm hw hB hz1 hk1 hS => ?_)
  obtain ⟨a1, d1, hB⟩ := hB
  obtain ⟨hP1, hK1, hD1⟩ := hB
  rw [ht] at hP1
  have hK1 := va_K.moved hvm.symm hK1
  obtain ⟨hP, hD⟩ := va_join (wr := []) (w1 := [ld_O h1 0 a1, ld_A a1 d1 (fun _ => 0)]) hP hD [0] [] rfl rfl (by decide) (by decide) hk1 hFc hP1 hD1
  have hK := (hK.sub (tys' := []) [] rfl).app hK1
  generalize H1 = H at hP hS ⊢
  have hP : va_P (dC, dI) ld_Cl [ld_O h1 0 a1, ld_A a1 d1 (fun _ => 0)] H := hP
  have hD : va_D (fun q : Nat => s.heap.size ≤ q) [ld_O h1 0 a1, ld_A a1 d1 (fun _ => 0)] := hD
  have hK : va_K (dC, dI) ld_Cl [(d1, .long)] s := hK
  refine lv_astore_n (lv' := [(1, .ref h1), (0, .ref b)]) hx hb dL_law_7 rfl hl (by decide) rfl (fun ls hl => ?_)
  refine va_new (ci := 1) (fs := [.null]) (C := RX1) (T := TX1) (N := 1) hx hb hts in_X1 tyX1 tyX1_ok hown (hts _ q262) (hts _ q263) (hts _ q6) hK hP hD hS hA rfl (fun j hj => by rcases (show j = 0 by omega) with rfl <;> rfl) (Nat.le_of_ble_eq_true rfl) (Nat.le_of_ble_eq_true rfl) dL_law_8 (fun h2 H hP hD hS => ?_)
  have hP : va_P (dC, dI) ld_Cl [ld_O h1 0 a1, ld_A a1 d1 (fun _ => 0), (h2, .inr (1, [.null]))] H := hP
  have hD : va_D (fun q : Nat => s.heap.size ≤ q) [ld_O h1 0 a1, ld_A a1 d1 (fun _ => 0), (h2, .inr (1, [.null]))] := hD
  refine lv_dup hx hb dL_law_11 rfl ?_
  have hPc := hP.sub (ws' := [(h2, .inr (1, [.null]))]) [2] rfl
  have hDc := hD.sub (ws' := [(h2, .inr (1, [.null]))]) [2] (by decide) rfl
  have hKc := hK.sub (tys' := []) [] rfl
  have hFc := va_free (wc := [(h2, .inr (1, [.null]))]) hD hS hA [2] rfl
  refine va_callv (va_runI (As := []) (rest := [.ref h2]) ⟨hx, hb, hml, hown, hts⟩ (metX1_init l dC dI H.size h2) (cwI 0 hts (lw_meth q266) rfl rfl rfl (hts _ q6) (hts _ q264) (hts _ q265) rfl (by decide +kernel) ⟨Nat.le_of_ble_eq_true rfl, Nat.le_of_ble_eq_true rfl⟩) ⟨fun a U g mk q => by obtain ⟨q0, q1, qP, qK, qD⟩ := q; exact ⟨q0, q1, qP, va_K.moved (u := U) (U := U.calling g mk a) (Vm.Alike.refl U.vm) qK, qD⟩, fun U hU hW => ⟨rfl, by rw [hU], by rw [hU]; exact hPc, va_K.moved hW.alike hKc, hDc.weaken (fun _ _ _ _ => trivial)⟩⟩ rfl rfl hl.1 rfl (lv_room (Nat.le_of_ble_eq_true rfl)) dL_law_12 ⟨Nat.le_of_ble_eq_true rfl, Nat.le_of_ble_eq_true rfl⟩) hS (fun q _ h => hFc q h) hFc (fun u t H1 locs ht hvm hw hB hz1 hk1 hS => ?_)
  obtain ⟨a2, d2, hB⟩ := hB
  obtain ⟨hP1, hK1, hD1⟩ := hB
  rw [ht] at hP1
  have hK1 := va_K.moved hvm.symm hK1
  obtain ⟨hP, hD⟩ := va_join (wr := [ld_O h1 0 a1, ld_A a1 d1 (fun _ => 0)]) (w1 := [ld_O h2 1 a2, ld_A a2 d2 (fun _ => 0)]) hP hD [2] [0, 1] rfl rfl (by decide) (by decide) hk1 hFc hP1 hD1
  have hK := (hK.sub (tys' := [(d1, .long)]) [0] rfl).app hK1
  generalize H1 = H at hP hS ⊢
  have hP : va_P (dC, dI) ld_Cl [ld_O h1 0 a1, ld_A a1 d1 (fun _ => 0), ld_O h2 1 a2, ld_A a2 d2 (fun _ => 0)] H := hP
  have hD : va_D (fun q : Nat => s.heap.size ≤ q) [ld_O h1 0 a1, ld_A a1 d1 (fun _ => 0), ld_O h2 1 a2, ld_A a2 d2 (fun _ => 0)] := hD
  have hK : va_K (dC, dI) ld_Cl [(d1, .long), (d2, .long)] s := hK
  refine lv_astore_n (lv' := [(2, .ref h2), (1, .ref h1), (0, .ref b)]) hx hb dL_law_15 rfl hl (by decide) rfl (fun ls hl => ?_)
  refine lv_iconst (v := nI 0) hx hb dL_law_16 (by decide +kernel) ?_
  refine lv_istore_n (lv' := [(3, .int (nI 0)), (2, .ref h2), (1, .ref h1), (0, .ref b)]) hx hb dL_law_17 rfl hl (by decide) rfl (fun ls hl => ?_)
  refine W.widen (k := 4 + 0) (n := 26 + 12 * 0) (by omega) (by omega) ?_
  exact ld_loop hL hx hb hml hown hts hX hbl hZ hK hr hlocks 50 0 (by decide) (Nat.zero_le _) (fun _ => 0) (fun _ => 0) (fun _ _ => rfl) _ _ hP hD hS ls (lv_sub hl [3, 2, 1, 0] rfl)
end
section
set_option maxRecDepth 100000
set_option maxHeartbeats 4000000 in
theorem lw_walk (l : Launch) (hflags : l.flags = flags0) (b : Addr) (xs : List Int32) : MetFree l x (headSpec (Jvm.Cond.code x code maxLocals ret :: tables_1) room_1) (lw_P b xs) (fun _ _ _ _ _ => True) lw_Q := by
  refine MetFree.of_bodyS (code := code) (maxLocals := maxLocals) (ret := ret) (by decide) ?_ ?_
  · intro args s m h hn
    obtain ⟨meth, c, h1, h2, h3, h4, h5, h6, -, -⟩ := Cond.code_spec hn (atoms_spec (ws := Jvm.Cond.code x code maxLocals ret :: tables_1) h _ List.mem_cons_self)
    exact ⟨meth, c, h1, h2, h3, h4, h5, h6⟩
  · intro p e s m args below meth c s₁ B hml0 hP _
    obtain ⟨rfl, hx, hbd, hgv⟩ := hP
    obtain ⟨scr, harrAt, hlist, hof, hsmall⟩ := hx
    obtain ⟨hcb, hkn, -, -⟩ := State.arrayAt?_spec harrAt
    have hown : s.vm.findClass R_law = some m.cls := findClass_of_methodNamed B.named
    have hts0 : ∀ c ∈ (Jvm.Cond.code x code maxLocals ret :: tables_1), c.before #[Value.ref b] s = true := atoms_spec (ws := Jvm.Cond.code x code maxLocals ret :: tables_1) B.pre
    have hts : ∀ w ∈ lw_tbl, w.before #[Value.ref b] s = true := k2_hts_sels lw_privs (fun w hw => hts0 w (List.mem_cons_of_mem _ hw)) lw_privs_ok
    have hml : c.maxLocals = 4 := B.maxLocals_eq (hts0 _ List.mem_cons_self)
    have X₀ : Stand p l e room_1 s m #[Value.ref b] below meth c s₁ [] 0 0 := Stand.of_body B
    have hh0 : s₁.heap = s.heap := by rw [B.state]; rfl
    have hsz : scr.slots.size = xs.length := by rw [← Array.length_toList, hlist, List.length_map]
    have hval : ∀ j : Nat, j < xs.length → scr.slots[j]? = some (.int (xs.getD j 0)) := fun j hj => by
      rw [← Array.getElem?_toList, hlist]
      simp [hj]
    have hbl : b < s.heap.size := (Array.getElem?_eq_some_iff.mp hcb).1
    have hX : va_X b xs.length (fun j => xs.getD j 0) s s.heap := ⟨scr, hcb, hof, hkn, hsz, hval⟩
    have K : W p l e room_1 s m #[Value.ref b] below meth c s₁.heap [] 0 0 (lw_Z below #[Value.ref b] s) (entryFrame m ([Value.ref b] : List Value).toArray 4) := by
      rw [hh0]
      exact whole_start l hflags hbd ⟨B.exec, B.bytes, B.returns, hml, hown, hts, hX, hbl, B.notSynchronized, hgv⟩
    obtain ⟨t, a1, o, b1, b2, b3⟩ := K s₁ rfl X₀
    exact ⟨t, o, a1, b1, b2, b3⟩
theorem lw_pre_spec {args : Array Value} {s : State} (h : (Jvm.Cond.and given_1 narrow_1).before args s = true) (hr : rest_1_c.before args s = true) : ∃ (b : Addr) (xs : List Int32), lw_P b xs args s := by
  have hs := flat_of_before _ h
  have hq := flat_of_before _ hr
  have hc : (Cond.count 1).before args s = true := hs _ (by decide +kernel)
  have harr : (Cond.arrayOf (.arg 0) .int).before args s = true := hs _ (by decide +kernel)
  have hle : (Cond.le (.length (.arg 0)) (.int 288)).before args s = true := hs _ (by decide +kernel)
  have hlen : (Cond.isInt (.length (.arg 0))).before args s = true := hq _ (by decide +kernel)
  have hall : (Cond.all (.arg 0) (.isInt (.elem (.arg 0) (.index 0)))).before args s = true := hq _ (by decide +kernel)
  obtain ⟨b, xs, hb, hx⟩ := State.ints_of_pre rfl harr hlen hall
  have hsm : xs.length < 2 ^ 31 := hx.choose_spec.2.2.2
  have hev : (Term.length (.arg 0)).eval args s none [] s = some (.int xs.length.toInt32) := hx.length_eval hb
  have hv := Cond.le_ints hev (show (Term.int 288).eval args s none [] s = some (.int 288) from rfl)
  have hd : xs.length.toInt32 ≤ 288 := by
    simpa [Cond.before, Cond.holds, hv] using hle
  have hN : xs.length ≤ 288 := (Int32.ofNat_le_ofNat hsm (by decide)).mp (show Int32.ofNat xs.length ≤ Int32.ofNat 288 from hd)
  exact ⟨b, xs, Cond.one_arg hc (show args[0]? = some (.ref b) from hb), hx, hN, h⟩
theorem lw_comes (l : Launch) (hflags : l.flags = flags0) : Comes l x (Jvm.Cond.code x code maxLocals ret :: tables_1) room_1 (fun tb e args s => Calls_1 tb e args s ∧ rest_1 tb e args s ∧ Pre_1 tb e args s)
    (fun _ _ args s o t => lw_Q args s o t) := by
  intro p e ha hc hk s m args below hf hfit hheap happ hpre
  obtain ⟨b, xs, hP⟩ := lw_pre_spec hpre.2.2 hpre.2.1
  obtain ⟨k, o, h1, h2, h3, hQ⟩ := lw_walk l hflags b xs p e ha hc hk s m args below hf ((Spec.applies_iff_loose hf).mp happ).1 hP trivial
  exact ⟨k, o, h1, h2, h3, hQ⟩
theorem lw_frame {s t : State} {o : Outcome} {args : Array Value} (h : Framed s o t [] 1200096 5501386) :
    Framed s o t (fieldLocs frame_1_writes args s ++ arrayLocs frame_1_arrays args s ++ staticLocs frame_1_statics s) 1200096 5501386 := h
theorem lw_limb (L : Cond) (hL : ∀ (args : Array Value) (s t : State), L.after args s (.returned (some (.int 1))) t = true) :
    ArmFor flags0 classFile x code maxLocals ret World_1 tables_1 room_1 Calls_1 rest_1 Pre_1
      (fun tb e a s o t => postC L tb e a s o t ∧ Framed s o t (fieldLocs frame_1_writes a s ++ arrayLocs frame_1_arrays a s ++ staticLocs frame_1_statics s) 1200096 5501386) := by
  intro l hflags _ _ p e ha hc hk s m args below hf hfit hheap happ hpre
  obtain ⟨k, o, h1, h2, h3, rfl, hF⟩ := lw_comes l hflags p e ha hc hk s m args below hf hfit hheap happ hpre
  exact ⟨k, _, h1, h2, h3, hL args s _, lw_frame hF⟩
theorem i_vc : Claimed_1_1 ∧ Claimed_1_2 := ⟨lw_limb limb_1_1 (fun args s t => by simp [limb_1_1, Cond.after, Cond.holds, Cond.value]), lw_limb limb_1_2 (fun args s t => Cond.after_iff.mpr (by
  first | (rw [show limb_1_2 = Cond.eq .result (.int 1) from rfl, Cond.eq_ints (x := 1) (y := 1) rfl rfl]; simp; done) | (simp [limb_1_2, Cond.value, Term.eval]; done)))⟩
end
