import PyProof.Rows.All
import Wide.All
import OpenK.AllK
import Wide.FinOn
import PyProof.MakeMany
import PySem.Challenge.RW_qh0029_02
set_option Elab.async false
set_option maxRecDepth 1000000
set_option maxHeartbeats 600000
set_option autoImplicit false
set_option linter.all false
set_option genSizeOf false
set_option genInjectivity false
open PySem PySem.W PyProof.Rows
namespace Mine
theorem aa{n m k:Nat}:n<=m->m<=k->n<=k:=Nat.le_trans
theorem ae{p:Prop}[Decidable p]:decide p=true->p:=of_decide_eq_true
theorem af{p:Prop}[Decidable p]:p->decide p=true:=decide_eq_true
theorem ah{n m k:Nat}:n<m->m<=k->n<k:=Nat.lt_of_lt_of_le
theorem au(n k:Nat):n<=n+k:=Nat.le_add_right n k
theorem ai(n:Nat):n<=n:=Nat.le_refl n
theorem az{a b:Nat}:a<b->a≠b:=Nat.ne_of_lt
theorem aC{a b:Nat}:b<=a->¬a<b:=Nat.not_lt.mpr
theorem cD:type_of%@Heap.lt_size:= @Heap.lt_size
theorem aE:type_of%@congrArg:= @congrArg
theorem aM:type_of%@Option.some.inj:= @Option.some.inj
theorem vT:type_of%@List.mem_of_getElem?:= @List.mem_of_getElem?
theorem av:type_of%@if_neg:= @if_neg
theorem aw:type_of%@if_pos:= @if_pos
theorem x9:type_of%@Nat.lt_of_le_of_ne:= @Nat.lt_of_le_of_ne
theorem t9:type_of%@Nat.le_of_lt_succ:= @Nat.le_of_lt_succ
theorem dC:type_of%@Nat.le_succ:= @Nat.le_succ
theorem dZ:type_of%@List.mem_append:= @List.mem_append
theorem jq:type_of%@List.mem_append_right:= @List.mem_append_right
theorem b9:type_of%@Nat.lt_of_le_of_lt:= @Nat.lt_of_le_of_lt
theorem gp:type_of%@Nat.add_assoc:= @Nat.add_assoc
theorem ff:type_of%@Nat.add_comm:= @Nat.add_comm
theorem gL:type_of%@Nat.add_le_add_left:= @Nat.add_le_add_left
theorem nS:type_of%@Nat.mul_le_mul_left:= @Nat.mul_le_mul_left
theorem aV:type_of%@wpAny_mono:= @wpAny_mono
theorem ag:type_of%@wpAny_bind:= @wpAny_bind
theorem aA:type_of%@wpAny_pure:= @wpAny_pure
theorem d0:type_of%@Nat.lt_irrefl:= @Nat.lt_irrefl
theorem bt:type_of%@Heap.get?_push_of_some:= @Heap.get?_push_of_some
theorem cf:type_of%@Heap.size_push:= @Heap.size_push
theorem bM:type_of%@Heap.get?_push_size:= @Heap.get?_push_size
theorem bF:type_of%@Nat.lt_succ_self:= @Nat.lt_succ_self
theorem cg:type_of%@decide_eq_false:= @decide_eq_false
theorem qk:type_of%@Bool.and_eq_true:= @Bool.and_eq_true
theorem cA:type_of%@List.size_toArray:= @List.size_toArray
theorem kW:type_of%@Bool.false_ne_true:= @Bool.false_ne_true
theorem cB:type_of%@Option.map_eq_some_iff:= @Option.map_eq_some_iff
theorem kA:type_of%@beq_eq_false_iff_ne:= @beq_eq_false_iff_ne
theorem dD:type_of%@beq_iff_eq:= @beq_iff_eq
theorem bN:type_of%@Nat.le_of_eq:= @Nat.le_of_eq
theorem mE:type_of%@List.forIn_cons:= @List.forIn_cons
theorem uJ:type_of%@Nat.lt_add_of_pos_right:= @Nat.lt_add_of_pos_right
theorem gM:type_of%@Nat.zero_add:= @Nat.zero_add
theorem nT:type_of%@Array.getElem?_eq_getElem:= @Array.getElem?_eq_getElem
theorem bX:type_of%@wpAny_holding:= @wpAny_holding
theorem eX:type_of%@isSubtype_type:= @isSubtype_type
theorem eF:type_of%@List.lookup_cons:= @List.lookup_cons
theorem jr:type_of%@List.getElem?_eq_getElem:= @List.getElem?_eq_getElem
theorem gN:type_of%@List.getElem?_map:= @List.getElem?_map
theorem aX:type_of%@List.length_map:= @List.length_map
theorem iQ:type_of%@Nat.add_right_comm:= @Nat.add_right_comm
theorem fg:type_of%@List.all_eq_true:= @List.all_eq_true
theorem hZ:type_of%@beq_self_eq_true:= @beq_self_eq_true
theorem bg:type_of%@List.mem_cons:= @List.mem_cons
theorem c7:type_of%@wpAny_standAt:= @wpAny_standAt
theorem mF:type_of%@Int.ofNat_lt:= @Int.ofNat_lt
theorem gq:type_of%@Int.ofNat_le:= @Int.ofNat_le
theorem dE:type_of%@Int.natCast_nonneg:= @Int.natCast_nonneg
theorem ib:type_of%@List.getElem?_toArray:= @List.getElem?_toArray
theorem kX:type_of%@List.getD_eq_getElem?_getD:= @List.getD_eq_getElem?_getD
theorem mG:type_of%@List.reverse_cons:= @List.reverse_cons
theorem ql:type_of%@List.map_congr_left:= @List.map_congr_left
theorem qm:type_of%@List.length_reverse:= @List.length_reverse
theorem dU:type_of%@List.mem_range:= @List.mem_range
theorem dF:type_of%@Nat.zero_le:= @Nat.zero_le
theorem bh:type_of%@eq_of_beq:= @eq_of_beq
theorem bR:type_of%@List.length_range:= @List.length_range
theorem rP:type_of%@List.replicate_succ:= @List.replicate_succ
theorem gr:type_of%@List.foldl_cons:= @List.foldl_cons
theorem kB:type_of%@call_meets:= @call_meets
theorem nU:type_of%@Heap.get?_update_other:= @Heap.get?_update_other
theorem uK:type_of%@Heap.size_after_update:= @Heap.size_after_update
theorem dt:type_of%@List.not_mem_nil:= @List.not_mem_nil
theorem gO:type_of%@Nat.lt_succ_of_lt:= @Nat.lt_succ_of_lt
theorem qo:type_of%@Nat.succ_ne_self:= @Nat.succ_ne_self
theorem cC:type_of%@dif_neg:= @dif_neg
theorem rQ:type_of%@Option.isNone_iff_eq_none:= @Option.isNone_iff_eq_none
theorem fN:type_of%@List.map_map:= @List.map_map
theorem cQ:type_of%@List.mem_map:= @List.mem_map
theorem nV:type_of%@wpAny_newObj_type:= @wpAny_newObj_type
theorem qp:type_of%@Nat.le_succ_of_le:= @Nat.le_succ_of_le
theorem mH:type_of%@Nat.succ.inj:= @Nat.succ.inj
theorem gu:type_of%@List.map_cons:= @List.map_cons
theorem d1:type_of%@List.append_nil:= @List.append_nil
theorem mI:type_of%@typeLookup_type:= @typeLookup_type
theorem mJ:type_of%@builtinLookup_eq_fast:= @builtinLookup_eq_fast
theorem mK:type_of%@List.mem_cons_of_mem:= @List.mem_cons_of_mem
theorem cR:type_of%@List.mem_singleton:= @List.mem_singleton
theorem rR:type_of%@wpAny_callSpecial?_slot:= @wpAny_callSpecial?_slot
theorem mL:type_of%@wpAny_call_entry:= @wpAny_call_entry
theorem dW:type_of%@wpAny_field:= @wpAny_field
theorem gv:type_of%@wpAny_of_eq:= @wpAny_of_eq
theorem nW:type_of%@wpAny_setField_rec:= @wpAny_setField_rec
theorem gP:type_of%@List.mem_append_left:= @List.mem_append_left
theorem kY:type_of%@Nat.add_lt_add_left:= @Nat.add_lt_add_left
theorem uL:type_of%@Option.isSome_iff_exists:= @Option.isSome_iff_exists
theorem fh:type_of%@List.nodup_cons:= @List.nodup_cons
theorem dG:type_of%@Nat.le_of_lt:= @Nat.le_of_lt
theorem mM:type_of%@wpAny_assign_Name:= @wpAny_assign_Name
theorem bU:type_of%@List.length_append:= @List.length_append
theorem cj:type_of%@List.append_assoc:= @List.append_assoc
theorem eh:type_of%@Nat.add_le_add_right:= @Nat.add_le_add_right
theorem gQ:type_of%@Nat.lt_trans:= @Nat.lt_trans
theorem iR:type_of%@Nat.not_le:= @Nat.not_le
theorem kZ:type_of%@List.filter_cons:= @List.filter_cons
theorem nX:type_of%@wpAny_execs_nil:= @wpAny_execs_nil
theorem kC:type_of%@wpAny_execs_cons:= @wpAny_execs_cons
theorem uM:type_of%@Classical.byContradiction:= @Classical.byContradiction
theorem gI:type_of%@Nat.succ_le_succ:= @Nat.succ_le_succ
theorem fR:type_of%@List.mem_reverse:= @List.mem_reverse
theorem k9:type_of%@List.nil_append:= @List.nil_append
theorem fj:type_of%@List.map_append:= @List.map_append
theorem dy:type_of%@List.forall_mem_cons:= @List.forall_mem_cons
theorem fS:type_of%@beq_false_of_ne:= @beq_false_of_ne
theorem eA:type_of%@Nat.mod_lt:= @Nat.mod_lt
theorem lg:type_of%@Nat.le_add_left:= @Nat.le_add_left
theorem fk:type_of%@Nat.add_le_add:= @Nat.add_le_add
theorem jN:type_of%@List.mem_filter:= @List.mem_filter
theorem jO:type_of%@List.length_filter_le:= @List.length_filter_le
theorem jP:type_of%@List.count_pos_iff:= @List.count_pos_iff
theorem i8:type_of%@List.count_eq_zero:= @List.count_eq_zero
theorem pw:type_of%@Nat.div_div_eq_div_mul:= @Nat.div_div_eq_div_mul
noncomputable def IZ(s:PySem.Stmt):Arguments:=match s with
 | .FunctionDef _ p _ _ _ _ _ _ _ _=>p
 |_=>default
noncomputable def uN(s:PySem.Stmt):List PySem.Stmt:=match s with
 | .FunctionDef _ _ b _ _ _ _ _ _ _=>b
 | .ClassDef _ _ _ b _ _ _ _ _ _ _=>b
 |_=>[]
noncomputable def lh(s:PySem.Stmt):Scope:=match s with
 | .FunctionDef _ _ _ _ _ _ s _ _ _=>s
 |_=>default
noncomputable def E2:Program:=PySem.Challenge.rw_qh0029_02.row.toRowW.prog
noncomputable def tS(i:Nat):PySem.Stmt:=E2.main.body.getD i (.Pass ⟨0,0,0,0⟩)
noncomputable def cS(i j:Nat):PySem.Stmt:=(uN (tS i)).getD j (.Pass ⟨0,0,0,0⟩)
noncomputable def tO(l:List Value):Obj:=⟨.type "tuple",none,.seq l.toArray 0,#[]⟩
noncomputable def dO(n:Nat)(l:List DictEntry):Obj:=⟨.type "dict",none,.dict l.toArray n,#[]⟩
noncomputable def eP(P:Params)(k:Str)(t:Nat)(v:Value):DictEntry:=⟨PyData.keyHash P k,.str k t,v⟩
noncomputable def cO(n q:Str)(t l a p k f A:Nat)(b:Bool)(T:Nat):Obj:=⟨.type "code",none,.fields #[.str n t,.str q (t+1),.str "/claim/cut.py" (t+2),.int l 0,.int a 0,.int p 0,.int k 0,.int f 0,.ref A,.bool true,.int 181 0,.ref (A+1),.none,if b then .ref (A+2)else .none,if b then .ref (A+3)else .none,.ref (if b then A+4 else A+2),.int T 0,.int l 0,.str "/claim/cut.py" (T+1)],#[]⟩
noncomputable def fO(s:PySem.Stmt)(n q:Str)(d k:Value)(m:Str)(t c:Nat):Obj:=⟨.type "function",none,.func ⟨n,q,IZ s,.stmts (uN s),lh s,3,[],d,k,.none,.str m t,none,.ref c,.none,0⟩,#[]⟩
noncomputable def OV(n:Str)(h:Bool)(y:List Str)(b A:List Value)(ns:Nat)(s:Array (Option Value)):Obj:=⟨.type "type",none,.cls ⟨n,b,A,ns,n,h,y,[],false,none,false⟩,s⟩
noncomputable def hp(P:Params):Frag:=[(2,⟨.none,none,.dict #[] 0,#[]⟩),(3,dO 35 [eP P "__name__" 165 (.str "law_qh0029_02" 549),eP P "__doc__" 166 (.none),eP P "__package__" 167 (.none),eP P "__loader__" 168 (.builtin "__main__.__loader__#opaque"),eP P "__spec__" 169 (.none),eP P "__annotations__" 170 (.ref 6),eP P "__builtins__" 171 (.ref 4),eP P "__file__" 173 (.str "/claim/cut.py" 172),eP P "__cached__" 174 (.none),eP P "_wall" 193 (.ref 21),eP P "_netrclex" 253 (.ref 59),eP P "bytes_types" 256 (.ref 64),eP P "_bytes_from_decode_data" 263 (.ref 71),eP P "Error" 283 (.ref 81),eP P "_ascii_buffer" 291 (.ref 91),eP P "_buffer" 299 (.ref 98),eP P "_truth" 307 (.ref 105),eP P "_B64" 309 (.bytes #[65,66,67,68,69,70,71,72,73,74,75,76,77,78,79,80,81,82,83,84,85,86,87,88,89,90,97,98,99,100,101,102,103,104,105,106,107,108,109,110,111,112,113,114,115,116,117,118,119,120,121,122,48,49,50,51,52,53,54,55,56,57,43,47] 308),eP P "_b64_value" 316 (.ref 112),eP P "a2b_base64" 332 (.ref 120),eP P "b2a_base64" 346 (.ref 128),eP P "b64encode" 357 (.ref 136),eP P "b64decode" 366 (.ref 144),eP P "_NODE_OUT" 371 (.int (-1) 370),eP P "_NODE_DONE" 374 (.int (-2) 373),eP P "_NodeInfo" 411 (.ref 163),eP P "CycleError" 429 (.ref 178),eP P "TopologicalSorter" 548 (.ref 260),eP P "_law_lexer" 561 (.ref 271),eP P "_law_word" 567 (.ref 276),eP P "_law_needs" 580 (.ref 283),eP P "_law_ways" 586 (.ref 288),eP P "_law_due" 592 (.ref 293),eP P "_law_opened" 598 (.ref 298),eP P "law" 604 (.ref 303)]),(15,tO []),(17,tO [.str "k" 190]),(18,tO []),(20,cO "_wall" "_wall" 187 1 1 0 0 3 15 true 191),(21,fO (tS 0) "_wall" "_wall" (.none) (.none) "__main__" 164 20),(29,tO []),(31,tO [.str "self" 211,.str "fp" 212]),(32,tO []),(34,cO "__init__" "_netrclex.__init__" 208 7 2 0 0 3 29 true 213),(35,fO (cS 2 0) "__init__" "_netrclex.__init__" (.none) (.none) "cpy313.netrc" 194 34),(36,tO []),(38,tO [.str "self" 219,.str "ch" 220]),(39,tO []),(41,cO "_read_char" "_netrclex._read_char" 216 13 1 0 0 3 36 true 221),(42,fO (cS 2 1) "_read_char" "_netrclex._read_char" (.none) (.none) "cpy313.netrc" 194 41),(43,tO []),(45,tO [.str "self" 227,.str "token" 228,.str "fiter" 229,.str "ch" 230]),(46,tO []),(48,cO "get_token" "_netrclex.get_token" 224 19 1 0 0 3 43 true 231),(49,fO (cS 2 2) "get_token" "_netrclex.get_token" (.none) (.none) "cpy313.netrc" 194 48),(50,tO []),(52,tO [.str "self" 237,.str "token" 238]),(53,tO []),(55,cO "push_token" "_netrclex.push_token" 234 46 2 0 0 3 50 true 239),(56,fO (cS 2 3) "push_token" "_netrclex.push_token" (.none) (.none) "cpy313.netrc" 194 55),(57,tO [.str "instream" 242,.str "lineno" 243,.str "pushback" 244,.str "whitespace" 245]),(58,dO 4 [eP P "__module__" 203 (.str "cpy313.netrc" 194),eP P "__firstlineno__" 207 (.int 5 206),eP P "__init__" 215 (.ref 35),eP P "_read_char" 223 (.ref 42),eP P "get_token" 233 (.ref 49),eP P "push_token" 241 (.ref 56),eP P "__static_attributes__" 246 (.ref 57),eP P "__dict__" 248 (.ref 60),eP P "__weakref__" 250 (.ref 61),eP P "__doc__" 251 (.none)]),(59,OV "_netrclex" true [] [.type "object"] [.ref 59,.type "object"] 58 #[none,none,some (.str "_netrclex" 196),some (.str "_netrclex" 204),some (.builtin "object.__new__"),some (.bool true)]),(60,⟨.type "getset_descriptor",none,.fields #[.str "__dict__" 247,.ref 59,.builtin "function.__dict__",.builtin "function.__dict__#set"],#[]⟩),(61,⟨.type "getset_descriptor",none,.fields #[.str "__weakref__" 249,.ref 59,.builtin "ExceptionGroup.__weakref__",.none],#[]⟩),(64,tO [.type "bytes",.type "bytearray"]),(65,tO []),(67,tO [.str "s" 260]),(68,tO []),(70,cO "_bytes_from_decode_data" "_bytes_from_decode_data" 257 50 1 0 0 3 65 true 261),(71,fO (tS 5) "_bytes_from_decode_data" "_bytes_from_decode_data" (.none) (.none) "cpy313.base64" 254 70),(72,tO [.type "ValueError"]),(79,tO []),(80,dO 3 [eP P "__module__" 273 (.str "binascii" 264),eP P "__firstlineno__" 277 (.int 63 276),eP P "__static_attributes__" 278 (.ref 79),eP P "__weakref__" 280 (.ref 82),eP P "__doc__" 281 (.none)]),(81,OV "Error" true [] [.type "ValueError"] [.ref 81,.type "ValueError",.type "Exception",.type "BaseException",.type "object"] 80 #[some (.ref 72),none,some (.str "Error" 266),some (.str "Error" 274),some (.builtin "ValueError.__new__"),some (.bool true)]),(82,⟨.type "getset_descriptor",none,.fields #[.str "__weakref__" 279,.ref 81,.builtin "ExceptionGroup.__weakref__",.none],#[]⟩),(85,tO []),(87,tO [.str "data" 287,.str "t" 288]),(88,tO []),(90,cO "_ascii_buffer" "_ascii_buffer" 284 65 1 0 0 3 85 true 289),(91,fO (tS 8) "_ascii_buffer" "_ascii_buffer" (.none) (.none) "binascii" 264 90),(92,tO []),(94,tO [.str "data" 295,.str "t" 296]),(95,tO []),(97,cO "_buffer" "_buffer" 292 76 1 0 0 3 92 true 297),(98,fO (tS 9) "_buffer" "_buffer" (.none) (.none) "binascii" 264 97),(99,tO []),(101,tO [.str "x" 303,.str "t" 304]),(102,tO []),(104,cO "_truth" "_truth" 300 83 1 0 0 3 99 true 305),(105,fO (tS 10) "_truth" "_truth" (.none) (.none) "binascii" 264 104),(106,tO []),(108,tO [.str "c" 313]),(109,tO []),(111,cO "_b64_value" "_b64_value" 310 89 1 0 0 3 106 true 314),(112,fO (tS 12) "_b64_value" "_b64_value" (.none) (.none) "binascii" 264 111),(113,dO 1 [eP P "strict_mode" 317 (.bool false)]),(114,tO []),(116,tO [.str "data" 321,.str "strict_mode" 322,.str "ascii_data" 323,.str "out" 324,.str "quad_pos" 325,.str "leftchar" 326,.str "pads" 327,.str "i" 328,.str "this_ch" 329]),(117,tO []),(119,cO "a2b_base64" "a2b_base64" 318 101 1 1 1 3 114 true 330),(120,fO (tS 13) "a2b_base64" "a2b_base64" (.none) (.ref 113) "binascii" 264 119),(121,dO 1 [eP P "newline" 333 (.bool true)]),(122,tO []),(124,tO [.str "data" 337,.str "newline" 338,.str "bin_data" 339,.str "out" 340,.str "leftbits" 341,.str "leftchar" 342,.str "b" 343]),(125,tO []),(127,cO "b2a_base64" "b2a_base64" 334 155 1 1 1 3 122 true 344),(128,fO (tS 14) "b2a_base64" "b2a_base64" (.none) (.ref 121) "binascii" 264 127),(129,tO [.none]),(130,tO []),(132,tO [.str "s" 352,.str "altchars" 353,.str "encoded" 354]),(133,tO []),(135,cO "b64encode" "b64encode" 349 178 2 0 0 3 130 true 355),(136,fO (tS 16) "b64encode" "b64encode" (.ref 129) (.none) "cpy313.base64" 347 135),(137,tO [.none,.bool false]),(138,tO []),(140,tO [.str "s" 361,.str "altchars" 362,.str "validate" 363]),(141,tO []),(143,cO "b64decode" "b64decode" 358 184 3 0 0 3 138 true 364),(144,fO (tS 17) "b64decode" "b64decode" (.ref 137) (.none) "cpy313.base64" 347 143),(152,tO [.str "node" 387,.str "npredecessors" 388,.str "successors" 389]),(153,tO []),(155,tO [.str "self" 394,.str "node" 395]),(156,tO []),(158,cO "__init__" "_NodeInfo.__init__" 391 197 2 0 0 3 153 true 396),(159,fO (cS 21 1) "__init__" "_NodeInfo.__init__" (.none) (.none) "cpy313.graphlib" 367 158),(160,tO [.str "node" 399,.str "npredecessors" 400,.str "successors" 401]),(162,dO 5 [eP P "__module__" 382 (.str "cpy313.graphlib" 367),eP P "__firstlineno__" 386 (.int 194 385),eP P "__slots__" 390 (.ref 152),eP P "__init__" 398 (.ref 159),eP P "__static_attributes__" 402 (.ref 160),eP P "node" 404 (.ref 164),eP P "npredecessors" 406 (.ref 165),eP P "successors" 408 (.ref 166),eP P "__doc__" 409 (.none)]),(163,OV "_NodeInfo" false ["node","npredecessors","successors"] [.type "object"] [.ref 163,.type "object"] 162 #[none,none,some (.str "_NodeInfo" 375),some (.str "_NodeInfo" 383),some (.builtin "object.__new__"),some (.bool false)]),(164,⟨.type "member_descriptor",none,.fields #[.str "node" 403,.ref 163,.builtin "proto.slot",.builtin "proto.slot#set",.int 2 0],#[]⟩),(165,⟨.type "member_descriptor",none,.fields #[.str "npredecessors" 405,.ref 163,.builtin "proto.slot",.builtin "proto.slot#set",.int 1 0],#[]⟩),(166,⟨.type "member_descriptor",none,.fields #[.str "successors" 407,.ref 163,.builtin "proto.slot",.builtin "proto.slot#set",.int 0 0],#[]⟩),(169,tO [.type "ValueError"]),(176,tO []),(177,dO 3 [eP P "__module__" 419 (.str "cpy313.graphlib" 367),eP P "__firstlineno__" 423 (.int 201 422),eP P "__static_attributes__" 424 (.ref 176),eP P "__weakref__" 426 (.ref 179),eP P "__doc__" 427 (.none)]),(178,OV "CycleError" true [] [.type "ValueError"] [.ref 178,.type "ValueError",.type "Exception",.type "BaseException",.type "object"] 177 #[some (.ref 169),none,some (.str "CycleError" 412),some (.str "CycleError" 420),some (.builtin "ValueError.__new__"),some (.bool true)]),(179,⟨.type "getset_descriptor",none,.fields #[.str "__weakref__" 425,.ref 178,.builtin "ExceptionGroup.__weakref__",.none],#[]⟩),(189,tO [.none]),(190,tO []),(192,tO [.str "self" 445,.str "graph" 446,.str "node" 447,.str "predecessors" 448]),(193,tO []),(195,cO "__init__" "TopologicalSorter.__init__" 442 205 2 0 0 3 190 true 449),(196,fO (cS 23 0) "__init__" "TopologicalSorter.__init__" (.ref 189) (.none) "cpy313.graphlib" 367 195),(197,tO []),(199,tO [.str "self" 455,.str "node" 456,.str "result" 457]),(200,tO []),(202,cO "_get_nodeinfo" "TopologicalSorter._get_nodeinfo" 452 214 2 0 0 3 197 true 458),(203,fO (cS 23 1) "_get_nodeinfo" "TopologicalSorter._get_nodeinfo" (.none) (.none) "cpy313.graphlib" 367 202),(204,tO []),(206,tO [.str "self" 464,.str "node" 465,.str "predecessors" 466,.str "nodeinfo" 467,.str "pred" 468,.str "pred_info" 469]),(207,tO []),(209,cO "add" "TopologicalSorter.add" 461 219 2 0 0 7 204 true 470),(210,fO (cS 23 2) "add" "TopologicalSorter.add" (.none) (.none) "cpy313.graphlib" 367 209),(211,tO []),(214,cO "prepare" "TopologicalSorter.prepare" 473 228 1 0 0 3 211 false 476),(215,fO (cS 23 3) "prepare" "TopologicalSorter.prepare" (.none) (.none) "cpy313.graphlib" 367 214),(216,tO []),(218,tO [.str "self" 482,.str "result" 483,.str "n2i" 484,.str "node" 485]),(219,tO []),(221,cO "get_ready" "TopologicalSorter.get_ready" 479 236 1 0 0 3 216 true 486),(222,fO (cS 23 4) "get_ready" "TopologicalSorter.get_ready" (.none) (.none) "cpy313.graphlib" 367 221),(223,tO []),(225,tO [.str "self" 492]),(226,tO []),(228,cO "is_active" "TopologicalSorter.is_active" 489 247 1 0 0 3 223 true 493),(229,fO (cS 23 5) "is_active" "TopologicalSorter.is_active" (.none) (.none) "cpy313.graphlib" 367 228),(230,tO []),(232,tO [.str "self" 499]),(233,tO []),(235,cO "__bool__" "TopologicalSorter.__bool__" 496 252 1 0 0 3 230 true 500),(236,fO (cS 23 6) "__bool__" "TopologicalSorter.__bool__" (.none) (.none) "cpy313.graphlib" 367 235),(237,tO []),(239,tO [.str "self" 506,.str "nodes" 507,.str "n2i" 508,.str "node" 509,.str "nodeinfo" 510,.str "stat" 511,.str "successor" 512,.str "successor_info" 513]),(240,tO []),(242,cO "done" "TopologicalSorter.done" 503 255 1 0 0 7 237 true 514),(243,fO (cS 23 7) "done" "TopologicalSorter.done" (.none) (.none) "cpy313.graphlib" 367 242),(244,tO []),(246,tO [.str "self" 520,.str "n2i" 521,.str "stack" 522,.str "itstack" 523,.str "seen" 524,.str "node2stacki" 525,.str "node" 526]),(247,tO []),(249,cO "_find_cycle" "TopologicalSorter._find_cycle" 517 278 1 0 0 3 244 true 527),(250,fO (cS 23 8) "_find_cycle" "TopologicalSorter._find_cycle" (.none) (.none) "cpy313.graphlib" 367 249),(251,tO []),(253,tO [.str "self" 533]),(254,tO []),(256,cO "static_order" "TopologicalSorter.static_order" 530 307 1 0 0 3 251 true 534),(257,fO (cS 23 9) "static_order" "TopologicalSorter.static_order" (.none) (.none) "cpy313.graphlib" 367 256),(258,tO [.str "_nfinished" 537,.str "_node2info" 538,.str "_npassedout" 539,.str "_ready_nodes" 540]),(259,dO 4 [eP P "__module__" 437 (.str "cpy313.graphlib" 367),eP P "__firstlineno__" 441 (.int 203 440),eP P "__init__" 451 (.ref 196),eP P "_get_nodeinfo" 460 (.ref 203),eP P "add" 472 (.ref 210),eP P "prepare" 478 (.ref 215),eP P "get_ready" 488 (.ref 222),eP P "is_active" 495 (.ref 229),eP P "__bool__" 502 (.ref 236),eP P "done" 516 (.ref 243),eP P "_find_cycle" 529 (.ref 250),eP P "static_order" 536 (.ref 257),eP P "__static_attributes__" 541 (.ref 258),eP P "__dict__" 543 (.ref 261),eP P "__weakref__" 545 (.ref 262),eP P "__doc__" 546 (.none)]),(260,OV "TopologicalSorter" true [] [.type "object"] [.ref 260,.type "object"] 259 #[none,none,some (.str "TopologicalSorter" 430),some (.str "TopologicalSorter" 438),some (.builtin "object.__new__"),some (.bool true)]),(261,⟨.type "getset_descriptor",none,.fields #[.str "__dict__" 542,.ref 260,.builtin "function.__dict__",.builtin "function.__dict__#set"],#[]⟩),(262,⟨.type "getset_descriptor",none,.fields #[.str "__weakref__" 544,.ref 260,.builtin "ExceptionGroup.__weakref__",.none],#[]⟩),(265,tO []),(267,tO [.str "text" 554,.str "stream" 555,.str "_law_piece" 556]),(268,tO [.str "text" 557,.str "gone" 558]),(270,cO "_law_lexer" "_law_lexer" 551 310 1 0 0 3 265 true 559),(271,fO (tS 25) "_law_lexer" "_law_lexer" (.none) (.none) "law_qh0029_02" 549 270),(272,tO []),(275,cO "_law_word" "_law_word" 562 320 2 0 0 3 272 false 565),(276,fO (tS 26) "_law_word" "_law_word" (.none) (.none) "law_qh0029_02" 549 275),(277,tO []),(279,tO [.str "numbers" 571,.str "factor" 572,.str "needs" 573,.str "card" 574,.str "free" 575,.str "row" 576,.str "need" 577]),(280,tO []),(282,cO "_law_needs" "_law_needs" 568 324 2 0 0 3 277 true 578),(283,fO (tS 27) "_law_needs" "_law_needs" (.none) (.none) "law_qh0029_02" 549 282),(284,tO []),(287,cO "_law_ways" "_law_ways" 581 334 2 0 0 3 284 false 584),(288,fO (tS 28) "_law_ways" "_law_ways" (.none) (.none) "law_qh0029_02" 549 287),(289,tO []),(292,cO "_law_due" "_law_due" 587 344 3 0 0 3 289 false 590),(293,fO (tS 29) "_law_due" "_law_due" (.none) (.none) "law_qh0029_02" 549 292),(294,tO []),(297,cO "_law_opened" "_law_opened" 593 355 3 0 0 3 294 false 596),(298,fO (tS 30) "_law_opened" "_law_opened" (.none) (.none) "law_qh0029_02" 549 297),(299,tO []),(302,cO "law" "law" 599 380 1 0 0 3 299 false 602),(303,fO (tS 31) "law" "law" (.none) (.none) "law_qh0029_02" 549 302)]
noncomputable def U8:List Addr:=[2,3,15,17,18,20,21,29,31,32,34,35,36,38,39,41,42,43,45,46,48,49,50,52,53,55,56,57,58,59,60,61,64,65,67,68,70,71,72,79,80,81,82,85,87,88,90,91,92,94,95,97,98,99,101,102,104,105,106,108,109,111,112,113,114,116,117,119,120,121,122,124,125,127,128,129,130,132,133,135,136,137,138,140,141,143,144,152,153,155,156,158,159,160,162,163,164,165,166,169,176,177,178,179,189,190,192,193,195,196,197,199,200,202,203,204,206,207,209,210,211,214,215,216,218,219,221,222,223,225,226,228,229,230,232,233,235,236,237,239,240,242,243,244,246,247,249,250,251,253,254,256,257,258,259,260,261,262,265,267,268,270,271,272,275,276,277,279,280,282,283,284,287,288,289,292,293,294,297,298,299,302,303]
theorem Mh:∀P,U8=(hp P).map (·.1):=λ P=>by kernel_rfl
noncomputable abbrev HK:Hook:=kmHook hp U8 Mh [266]
noncomputable def OW:Program:={E2 with main:={E2.main with body:=[0,2,4,5,7,8,9,10,11,12,19,20,21,22,23,25,26,27,28,29,30,31].map tS}}
noncomputable abbrev E3:List Str:=["bytes_types","a2b_base64","b2a_base64","b64encode","b64decode","_NodeInfo"]
set_option maxHeartbeats 0 in
theorem OX:LeftO PySem.Challenge.rw_qh0029_02.row.toRowW.prog OW E3 (λ s=>xlAt OW [] s&&recOk (RowW.records PySem.Challenge.rw_qh0029_02.row.toRowW) s) (Hook.obs HK) (Hook.val HK) 4352:=λ w=>by kernel_rfl
theorem nn{α:Type}{a:α}{P:Prop}(h:Option.none=some a):P:=nomatch h
theorem nf{P:Prop}(h:false=true):P:=nomatch h
theorem kS{a b:Bool}(M:a=true)(u:b=true):(a&&b)=true:=by refine M.symm▸u.symm▸?_;rfl
theorem ao{a b:Bool}(h:(a&&b)=true):a=true/\b=true:=by induction a<;>first|exact⟨rfl,h⟩|exact nf h
theorem i9{a:Bool}(h:(!a)=true):a=false:=by induction a<;>first|rfl|exact nf h
theorem RI{a b:Bool}(h:(a||b)=true):a=true\/b=true:=by induction a<;>first|exact .inl rfl|exact .inr h
theorem vU{α:Type}{o:Option α}{f:α->Bool}(h:o.any f=true):∃x,o=some x/\f x=true:=by induction o<;>first|exact nf h|exact⟨_,rfl,h⟩
inductive Bi where
 |len|sum|sorted|iter|isinstance
 deriving DecidableEq,Inhabited
noncomputable def Bi.id:Bi->String
 | .len=>"len"| .sum=>"sum"| .sorted=>"sorted"| .iter=>"iter"| .isinstance=>"isinstance"
inductive Ty where
 |int|bytes|bytearray|str|bool|list|tuple|set|type|range|zip|enumerate|float|complex|dict|frozenset|none|ll|ya
 deriving DecidableEq,Inhabited
noncomputable def Ty.name:Ty->String
 | .int=>"int"| .bytes=>"bytes"| .bytearray=>"bytearray"| .str=>"str"| .bool=>"bool"| .list=>"list"| .tuple=>"tuple"| .set=>"set"| .type=>"type"| .range=>"range"| .zip=>"zip"
 | .enumerate=>"enumerate"| .float=>"float"| .complex=>"complex"| .dict=>"dict"| .frozenset=>"frozenset"| .none=>"NoneType"| .ll=>"StopIteration"| .ya=>"ValueError"
inductive Bm where
 |iS|vV|iT|lp|vW|yb|gd|kD|d2|iU|c0
 deriving DecidableEq,Inhabited
noncomputable def Bm.id:Bm->String
 | .iS=>"list.append"| .vV=>"list.pop"| .iT=>"list.extend"| .lp=>"list.clear"| .vW=>"dict.get"| .yb=>"set.add"| .gd=>"str.encode"| .kD=>"str.join"
 | .d2=>"bytes.translate"| .iU=>"bytes.decode"| .c0=>"bytes.maketrans"
inductive V where
 |none
 |bool (b:Bool)
 |int (i:Int)
 |str (s:List Nat)
 |bytes (b:List Nat)
 |ref (i:Nat)
 |list (vs:List V)
 |tuple (vs:List V)
 |glob (a:Nat)
 |bi (b:Bi)
 |ty (t:Ty)
 |bm (b:Bm)
 |it (pr:Bool) (vs:List V)
 |kE (i:Nat)
 |aF
 deriving Inhabited
inductive O where
 |dead
 |list (vs:List V)
 |dict (bC:List (Int×V)) (ep:Nat)
 |set (xs:List Int)
 |inst (c:Nat) (attrs:List (Nat×V))
 |node (c:Nat) (vs:List V)
 |t5 (k:Nat) (vs:List V)
 |dX (fn:Nat) (f:V)
 |qR
 |xX (l:Nat) (i:Nat)
 deriving Inhabited
structure Mem where
 n:Nat
 f:Nat->O
noncomputable def Mem.alloc(Y:Mem)(o:O):Mem:=⟨Y.n+1,λ i=>if i=Y.n then o else Y.f i⟩
noncomputable def Mem.set(Y:Mem)(a:Nat)(o:O):Mem:=⟨Y.n,λ i=>if i=a then o else Y.f i⟩
structure Vw where
 ρ:Nat->Addr
 fp:Nat->List Addr
 x:List Addr
 y:List Addr
 z:List Addr
 Y:Mem
noncomputable def Vw.live(c:Vw)(i:Nat):Prop:=i<c.Y.n/\c.Y.f i≠.dead
noncomputable def Vw.T(c:Vw)(b:Addr):Prop:=∃i,c.live i/\b∈c.fp i
noncomputable def Vw.N(c:Vw)(b:Addr):Prop:=c.T b\/b∈c.y\/b∈c.z
noncomputable def SeqAt(h:Heap)(T:String)(a:Addr)(g:List Value):Prop:=∃n,h.get? a=some {cls:= .type T,dict:= .none,data:= .seq g.toArray n,slots:= #[]}
noncomputable def strOf(s:List Nat):Str:=⟨s.toArray⟩
noncomputable def bP(b:List Nat):Array UInt8:=(b.map UInt8.ofNat).toArray
mutual
noncomputable def aD(c:Vw)(h:Heap):V->Value->Prop
 | .none,x=>x= .none
 | .bool b,x=>x= .bool b
 | .int i,x=>∃t,x= .int i t
 | .str s,x=>∃t,x= .str (strOf s) t
 | .bytes b,x=>(∀y∈b,y<256)/\∃t,x= .bytes (bP b) t
 | .ref i,x=>i<c.Y.n/\x= .ref (c.ρ i)
 | .list vs,x=>∃a g,x= .ref a/\SeqAt h "list" a g/\¬c.N a/\ay c h vs g
 | .tuple vs,x=>∃a g,x= .ref a/\SeqAt h "tuple" a g/\¬c.N a/\ay c h vs g
 | .glob a,x=>x= .ref a
 | .bi b,x=>x= .builtin b.id
 | .ty t,x=>x= .type t.name
 | .bm b,x=>x= .builtin b.id
 | .it _ _,_=>False
 | .kE _,_=>False
 | .aF,_=>False
noncomputable def ay(c:Vw)(h:Heap):List V->List Value->Prop
 |[],[]=>True
 |v::vs,x::xs=>aD c h v x/\ay c h vs xs
 |[],_::_=>False
 |_::_,[]=>False
end
structure Carry(c:Vw)(h:Heap)(c':Vw)(h':Heap):Prop where
 n:c.Y.n<=c'.Y.n
 ρ:∀i,i<c.Y.n->c'.ρ i=c.ρ i
 fp:∀i,i<c.Y.n->c'.fp i=c.fp i
 old:∀b,b<h.objs.size->c'.T b->c.T b
 yc:∀b,b<h.objs.size->c'.N b->c.N b
 seq:∀b o,h.get? b=some o->¬c.N b->(o.cls= .type "list"\/o.cls= .type "tuple")->h'.get? b=some o
theorem Carry.refl(c:Vw)(h:Heap):Carry c h c h:=⟨ai _,λ D D=>rfl,λ D D=>rfl,λ D D t=>t,λ D D t=>t,λ D D e D D=>e⟩
theorem Carry.trans{c G A:Vw}{h h' g:Heap}(x:Carry c h G h')(y:Carry G h' A g)(L:h.objs.size<=h'.objs.size):Carry c h A g where
 n:=aa x.n y.n
 ρ:=λ i hi=>(y.ρ i (ah hi x.n)).trans (x.ρ i hi)
 fp:=λ i hi=>(y.fp i (ah hi x.n)).trans (x.fp i hi)
 old:=λ b U t=>x.old b U (y.old b (ah U L) t)
 yc:=λ b U t=>x.yc b U (y.yc b (ah U L) t)
 seq:=λ b o e z C=>y.seq b o (x.seq b o e z C) (λ t=>z (x.yc b (cD e) t)) C
structure Tr(c:Vw)(h:Heap)(c':Vw)(h':Heap):Prop where
 n:c.Y.n<=c'.Y.n
 ρ:∀i,i<c.Y.n->c'.ρ i=c.ρ i
 seq:∀{T:String}{a:Addr}{aK:List Value},(T="list"\/T="tuple")->SeqAt h T a aK->¬c.N a->SeqAt h' T a aK/\¬c'.N a
theorem Carry.tr{c G:Vw}{h h':Heap}(k:Carry c h G h'):Tr c h G h':=⟨k.n,k.ρ,λ{T a g} j s z=>by
 obtain⟨n,e⟩:=s
 exact⟨⟨n,k.seq a _ e z (j.imp (aE Value.type) (aE Value.type))⟩,λ t=>z (k.yc a (cD e) t)⟩⟩
theorem SeqAt.carry{c G:Vw}{h h':Heap}(k:Carry c h G h'){T:String}{a:Addr}{g:List Value}(j:T="list"\/T="tuple")(s:SeqAt h T a g)(z:¬c.N a):SeqAt h' T a g/\¬G.N a:=k.tr.seq j s z
theorem ay.ind{c:Vw}{h:Heap}{P:List V->List Value->Prop}(q:P [] [])(M:∀v vs x xs,aD c h v x->ay c h vs xs->P vs xs->P (v::vs) (x::xs)){vs:List V}{xs:List Value}(r:ay c h vs xs):P vs xs:=by
 induction vs generalizing xs with
 |nil=>induction xs using List.casesOn with
  |nil=>exact q
  |cons=>exact r.elim
 |cons v vs y=>induction xs using List.casesOn with
  |nil=>exact r.elim
  |cons x xs=>exact M v vs x xs r.1 r.2 (y r.2)
theorem aD.map{c G:Vw}{h h':Heap}(k:Tr c h G h'){v:V}:∀{x:Value},aD c h v x->aD G h' v x:=by
 induction v using V.rec (motive_2:=λ vs=>∀{xs:List Value},ay c h vs xs->ay G h' vs xs)with
 |ref i=>exact λ r=>⟨ah r.1 k.n,by exact k.ρ i r.1▸r.2⟩
 |list vs y=>exact λ⟨a,g,e,s,z,r⟩=>⟨a,g,e,(k.seq (.inl rfl) s z).1,(k.seq (.inl rfl) s z).2,y r⟩
 |tuple vs y=>exact λ⟨a,g,e,s,z,r⟩=>⟨a,g,e,(k.seq (.inr rfl) s z).1,(k.seq (.inr rfl) s z).2,y r⟩
 |nil=>rename_i xs r;induction xs using List.casesOn with
  |nil=>trivial
  |cons=>exact r.elim
 |cons v vs U M=>rename_i xs r;induction xs using List.casesOn with
  |nil=>exact r.elim
  |cons x xs=>exact⟨U r.1,M r.2⟩
 |_=>exact λ r=>r
theorem ay.map{c G:Vw}{h h':Heap}(k:Tr c h G h'){vs:List V}{xs:List Value}(r:ay c h vs xs):ay G h' vs xs:=r.ind (P:=λ vs xs=>ay G h' vs xs) trivial λ D D D D r D y=>⟨r.map k,y⟩
theorem aD.carry{c G:Vw}{h h':Heap}(k:Carry c h G h'){v:V}{x:Value}(r:aD c h v x):aD G h' v x:=r.map k.tr
theorem ay.carry{c G:Vw}{h h':Heap}(k:Carry c h G h'){vs:List V}{xs:List Value}(r:ay c h vs xs):ay G h' vs xs:=r.map k.tr
theorem ay.length{c:Vw}{h:Heap}{vs:List V}{xs:List Value}(r:ay c h vs xs):vs.length=xs.length:=r.ind (P:=λ vs xs=>vs.length=xs.length) rfl λ D D D D D D y=>aE (·+1) y
theorem ay.append{c:Vw}{h:Heap}{vs ws:List V}{xs ys:List Value}(r:ay c h vs xs)(q:ay c h ws ys):ay c h (vs++ws) (xs++ys):=r.ind (P:=λ vs xs=>ay c h (vs++ws) (xs++ys)) q λ D D D D r D y=>⟨r,y⟩
theorem ay.get{c:Vw}{h:Heap}{vs:List V}{xs:List Value}{i:Nat}{v:V}(r:ay c h vs xs):vs[i]? =some v->∃x,xs[i]? =some x/\aD c h v x:=r.ind (P:=λ vs xs=>∀i:Nat,vs[i]? =some v->∃x,xs[i]? =some x/\aD c h v x) (λ D e=>nomatch e) (λ a D x D r D y i=>Nat.casesOn i (λ e=>⟨x,rfl,aM e▸r⟩) λ i e=>y i e) i
theorem ay.take{c:Vw}{h:Heap}{vs:List V}{xs:List Value}(n:Nat)(r:ay c h vs xs):ay c h (vs.take n) (xs.take n):=r.ind (P:=λ vs xs=>∀n:Nat,ay c h (vs.take n) (xs.take n)) (λ n=>Nat.casesOn n trivial λ D=>trivial) (λ D D D D r D y n=>Nat.casesOn n trivial λ n=>⟨r,y n⟩) n
theorem ay.drop{c:Vw}{h:Heap}{vs:List V}{xs:List Value}(n:Nat)(r:ay c h vs xs):ay c h (vs.drop n) (xs.drop n):=r.ind (P:=λ vs xs=>∀n:Nat,ay c h (vs.drop n) (xs.drop n)) (λ n=>Nat.casesOn n trivial λ D=>trivial) (λ D D D D r m y n=>Nat.casesOn n ⟨r,m⟩ λ n=>y n) n
noncomputable def I0:List Str:=["lineno","instream","whitespace","pushback","read","_node2info","_ready_nodes","_npassedout","_nfinished"]
noncomputable def attrName(k:Nat):Str:=I0.getD k "?"
theorem vX:∀i j:Fin 9,attrName i=attrName j->i=j:=by decide+kernel
structure Cx where
 prog:Program
 w:World
 K:Frag
 h₀:Heap
 os:OsState
 P:Addr
 ps:Array Value
 line:Nat
 col:Nat
 qual:Str
 t5:Nat->FuncData->Prop
noncomputable abbrev dR:=Value->Shared->Prop
noncomputable abbrev eY:=V->Mem->Prop
noncomputable abbrev aj:=List Nat
noncomputable abbrev ar:=List V
noncomputable abbrev aP:=PySem.Expr
noncomputable abbrev aL:=List Value
noncomputable abbrev Cx.ax(J:Cx):Model:=model J.prog J.w
section
variable{J:Cx}{A:Around}{E:dR}{c:Vw}{s:Shared}{d:Nat}{Y:Mem}{env:Env}{Q:eY}{B:ar}{h:Heap}
noncomputable def bI(c:Vw)(h:Heap):List (Nat×V)->List DictEntry->Prop
 |[],[]=>True
 |(k,v)::r,e::es=>k<9/\(∃t,e.key= .str (attrName k) t)/\aD c h v e.val/\bI c h r es
 |[],_::_=>False
 |_::_,[]=>False
noncomputable def cT(c:Vw)(h:Heap):List (Int×V)->List (Int×Value)->Prop
 |[],[]=>True
 |(k,v)::r,(E,x)::es=>k=E/\aD c h v x/\cT c h r es
 |[],_::_=>False
 |_::_,[]=>False
theorem bI.map{c G:Vw}{h h':Heap}(k:Tr c h G h'){as:List (Nat×V)}{es:List DictEntry}(r:bI c h as es):bI G h' as es:=by
 induction as generalizing es with
 |nil=>induction es using List.casesOn with
  |nil=>trivial
  |cons=>exact r.elim
 |cons a as y=>induction es using List.casesOn with
  |nil=>exact r.elim
  |cons=>exact⟨r.1,r.2.1,r.2.2.1.map k,y r.2.2.2⟩
theorem cT.ind{P:List (Int×V)->List (Int×Value)->Prop}(q:P [] [])(M:∀k v vs x xs,aD c h v x->cT c h vs xs->P vs xs->P ((k,v)::vs) ((k,x)::xs)){vs:List (Int×V)}{xs:List (Int×Value)}(r:cT c h vs xs):P vs xs:=by
 induction vs generalizing xs with
 |nil=>induction xs using List.casesOn with
  |nil=>exact q
  |cons=>exact r.elim
 |cons v vs y=>induction xs using List.casesOn with
  |nil=>exact r.elim
  |cons x xs=>
   obtain⟨k,v⟩:=v
   obtain⟨E,x⟩:=x
   exact(show k=E from r.1)▸M k v vs x xs r.2.1 r.2.2 (y r.2.2)
theorem cT.map{c G:Vw}{h h':Heap}(k:Tr c h G h'){as:List (Int×V)}{es:List (Int×Value)}(r:cT c h as es):cT G h' as es:=r.ind (P:=λ as es=>cT G h' as es) trivial λ D D D D D r D y=>⟨rfl,r.map k,y⟩
theorem bI.carry{c G:Vw}{h h':Heap}(k:Carry c h G h'){as:List (Nat×V)}{es:List DictEntry}(r:bI c h as es):bI G h' as es:=r.map k.tr
theorem cT.carry{c G:Vw}{h h':Heap}(k:Carry c h G h'){as:List (Int×V)}{es:List (Int×Value)}(r:cT c h as es):cT G h' as es:=r.map k.tr
noncomputable def jt(c:Vw)(h:Heap)(vs:ar)(y:Array (Option Value)):Prop:=∀(j:Nat) v,vs[j]? =some v->v= .aF\/∃x,(y[j]?).join=some x/\aD c h v x
structure BO(c:Vw)(h:Heap)(a:Addr)(vs:ar)(cls:List Addr)(fd:FuncData):Prop where
 fn:∃o,h.get? a=some o/\o.data= .func fd/\o.cls= .type "function"
 cells:∃xs,ay c h vs xs/\cls.length=xs.length/\∀(j:Nat) b x,cls[j]? =some b->xs[j]? =some x->∃o,h.get? b=some o/\o.data= .cell (some x)
 names:fd.closure.map (·.2)=cls
noncomputable def eQ(J:Cx)(c:Vw)(h:Heap)(a:Addr)(fp:List Addr):O->Prop
 | .dead=>True
 | .list vs=>fp=[a]/\∃g,SeqAt h "list" a g/\ay c h vs g
 | .dict bC ep=>fp=[a]/\∃U,h.DictAt (intKind J.prog J.w) a U ep/\cT c h bC U
 | .set xs=>fp=[a]/\h.SetOf (intKind J.prog J.w) a (λ k=>decide (k∈xs)) xs.length/\xs.Nodup
 | .inst C as=>∃d es ep,fp=[a,d]/\a≠d/\h.get? a=some (instObj C d)/\h.get? d=some (dictOf es ep)/\bI c h as es
 | .node C vs=>∃d y,fp=[a,d]/\a≠d/\h.get? a=some {cls:= .ref C,dict:=some d,data:= .plain,slots:=y}/\h.get? d=some emptyDict/\jt c h vs y
 | .t5 k vs=>fp=[a]/\∃cls v,BO c h a vs cls v/\(∀b∈cls,b∈c.x)/\J.t5 k v/\∃G,G∈c.x/\v.code= .ref G/\h.CodeRec v.code v.qualname
 | .dX fn f=>fp=[a]/\∃q t,h.get? a=some {cls:= .type "callable_iterator",data:= .fields #[.ref q,.str Str.empty t,.bool false]}/\q∈c.x/\∃self,h.get? q=some (methodObj (.ref fn) self)/\aD c h f self
 | .qR=>fp=[a]/\h.get? a=some {cls:= .type "callable_iterator",data:= .fields #[.none,.none,.bool true]}
 | .xX l i=>∃d,fp=[a,d]/\a≠d/\l<c.Y.n/\h.get? a=some {cls:= .type "method-wrapper",data:= .fields #[.builtin "list_iterator.__next__",.ref d]}/\h.IsListIter d (c.ρ l) i
noncomputable def Tab(J:Cx)(x:List Addr)(h:Heap):Prop:=h.get? J.P=some {cls:= .none,data:= .fields J.ps}\/∃G,G∈x/\h.get? J.P=some {cls:= .none,data:= .fields (J.ps++ #[rawInt J.line,rawInt J.col,.ref G])}/\h.CodeRec (.ref G) J.qual
structure Rel(J:Cx)(c:Vw)(s:Shared):Prop where
 base:∀b o,J.h₀.get? b=some o->b≠J.P->s.heap.get? b=some o
 tab:Tab J c.x s.heap
 lq:∃o,J.h₀.get? J.P=some o/\o.cls= .none
 size:J.h₀.objs.size<=s.heap.objs.size
 obj:∀i,i<c.Y.n->eQ J c s.heap (c.ρ i) (c.fp i) (c.Y.f i)
 apart:∀i j,c.live i->c.live j->i≠j->∀b∈c.fp i,b∉c.fp j
 high:∀b,c.T b->J.h₀.objs.size<=b/\b<s.heap.objs.size
 nJ:∀b∈c.x,J.h₀.objs.size<=b/\(∃o,s.heap.get? b=some o)/\¬c.T b
 eB:∀b∈c.y,J.h₀.objs.size<=b/\b<s.heap.objs.size/\¬c.T b/\b∉c.x
 d8:∀b∈c.z,J.h₀.objs.size<=b/\(∃o,s.heap.get? b=some o/\∀vs,o.data≠.fields vs)/\¬c.T b/\b∉c.x/\b∉c.y
 gens:s.gens= #[]
 os:s.os=J.os
structure Step(J:Cx)(c:Vw)(s:Shared)(c':Vw)(s':Shared)(W:Addr->Prop):Prop where
 rel:Rel J c' s'
 carry:Carry c s.heap c' s'.heap
 x:∀b∈c.x,b∈c'.x
 rS:∀b∈c'.x,b∈c.x\/s.heap.objs.size<=b
 y:∀b∈c.y,b∈c'.y
 z:∀b∈c.z,b∈c'.z
 pz:∀b∈c'.z,b∈c.z\/s.heap.objs.size<=b
 kept:∀b o,s.heap.get? b=some o->¬c.T b->¬W b->b≠J.P->b∉c.z->s'.heap.get? b=some o
 ju:∀b o,s.heap.get? b=some o->b∈c.z->¬W b->∃sl,s'.heap.get? b=some {o with slots:=sl}
 size:s.heap.objs.size<=s'.heap.objs.size
noncomputable abbrev cZ:Addr->Prop:=λ D=>False
theorem Step.refl{W:Addr->Prop}(R:Rel J c s):Step J c s c s W:=⟨R,.refl ..,λ D h=>h,λ D h=> .inl h,λ D h=>h,λ D h=>h,λ D h=> .inl h,λ D D e D D D D=>e,λ D o e D D=>⟨o.slots,e⟩,ai _⟩
theorem Step.trans{c G A:Vw}{s s' T:Shared}{W:Addr->Prop}(x:Step J c s G s' W)(y:Step J G s' A T W):Step J c s A T W where
 rel:=y.rel
 carry:=x.carry.trans y.carry x.size
 x:=λ b h=>y.x b (x.x b h)
 rS:=λ b h=>by
  rcases y.rS b h with h|h
  ·exact x.rS b h
  ·exact .inr (aa x.size h)
 y:=λ b h=>y.y b (x.y b h)
 z:=λ b h=>y.z b (x.z b h)
 pz:=λ b h=>by
  rcases y.pz b h with h|h
  ·exact x.pz b h
  ·exact .inr (aa x.size h)
 kept:=λ b o e g m np q=>y.kept b o (x.kept b o e g m np q) (λ t=>g (x.carry.old b (cD e) t)) m np λ h=>by
  rcases x.pz b h with h|h
  ·exact q h
  ·exact aC h (cD e)
 ju:=λ b o e i m=>by
  obtain⟨E,k⟩:=x.ju b o e i m
  obtain⟨U,l⟩:=y.ju b _ k (x.z b i) m
  exact⟨U,l⟩
 size:=aa x.size y.size
theorem Step.mono{c G:Vw}{s s':Shared}{W W':Addr->Prop}(x:Step J c s G s' W)(h:∀b,W b->W' b):Step J c s G s' W':=⟨x.rel,x.carry,x.x,x.rS,x.y,x.z,x.pz,λ b o e z m np i=>x.kept b o e z (λ q=>m (h b q)) np i,λ b o e v m=>x.ju b o e v (λ q=>m (h b q)),x.size⟩
theorem Step.bO{c G:Vw}{s s':Shared}{W:Addr->Prop}(x:Step J c s G s' cZ):Step J c s G s' W:=x.mono λ D h=>h.elim
theorem Step.there{c G:Vw}{s s':Shared}{W:Addr->Prop}(x:Step J c s G s' W){b:Addr}{o:Obj}(e:s.heap.get? b=some o)(z:¬c.T b)(m:¬W b)(np:b≠J.P):∃y,s'.heap.get? b=some {o with slots:=y}:=by
 by_cases h:b∈c.z
 ·exact x.ju b o e h m
 ·exact⟨o.slots,x.kept b o e z m np h⟩
theorem BO.map{c G:Vw}{h h':Heap}{a:Addr}{vs:ar}{cls:List Addr}{s:FuncData}(k:Tr c h G h')(y:∀o,h.get? a=some o->h'.get? a=some o)(g:∀b∈cls,∀o,h.get? b=some o->h'.get? b=some o)(C:BO c h a vs cls s):BO G h' a vs cls s where
 fn:=let⟨o,e,z⟩:=C.fn;⟨o,y o e,z⟩
 cells:=let⟨xs,v,N,q⟩:=C.cells;⟨xs,v.map k,N,λ j b x U I=>let⟨o,e,z⟩:=q j b x U I;⟨o,g b (vT U) o e,z⟩⟩
 names:=C.names
theorem CodeRec.map{h h':Heap}{v:Value}{q:Str}{c₁:Addr}(n:v= .ref c₁)(C:∀o,h.get? c₁=some o->h'.get? c₁=some o)(r:h.CodeRec v q):h'.CodeRec v q:=by
 obtain⟨c₂,c,l,M,T,d,U⟩:=r
 rw[n]at T
 obtain rfl:=Value.ref.inj T
 exact⟨_,c,l,M,n,C _ d,U⟩
theorem eQ.map{c G:Vw}{h h':Heap}{a:Addr}{fp:List Addr}{o:O}(k:Tr c h G h')(I:∀b∈c.x,b∈G.x/\∀o,h.get? b=some o->h'.get? b=some o)(A:∀b∈fp,∀o,h.get? b=some o->h'.get? b=some o)(r:eQ J c h a fp o):eQ J G h' a fp o:=by
 induction o using Mine.O.casesOn with
 |dead=>trivial
 |list vs=>
  obtain⟨rfl,g,⟨n,e⟩,v⟩:=r
  exact⟨rfl,g,⟨n,A a (.head _) _ e⟩,v.map k⟩
 |dict bC ep=>
  obtain⟨rfl,H,d,v⟩:=r
  exact⟨rfl,H,d.at (A a (.head _)),v.map k⟩
 |set xs=>
  obtain⟨rfl,⟨o,es,ep,t,e,z⟩,T⟩:=r
  exact⟨rfl,⟨o,es,ep,t,A a (.head _) o e,z⟩,T⟩
 |inst C as=>
  obtain⟨d,es,ep,rfl,ne,L,Q,v⟩:=r
  exact⟨d,es,ep,rfl,ne,A a (.head _) _ L,A d (.tail _ (.head _)) _ Q,v.map k⟩
 |node C vs=>
  obtain⟨d,E,rfl,ne,e,Q,v⟩:=r
  exact⟨d,E,rfl,ne,A a (.head _) _ e,A d (.tail _ (.head _)) _ Q,λ j w m=>(v j w m).imp id λ⟨x,p,q⟩=>⟨x,p,q.map k⟩⟩
 |t5 n vs=>
  obtain⟨rfl,cls,fd,C,y,hp,c₁,M,N,r⟩:=r
  exact⟨rfl,cls,fd,C.map k (A a (.head _)) λ b U=>(I b (y b U)).2,λ b U=>(I b (y b U)).1,hp,c₁,(I c₁ M).1,N,CodeRec.map N (I c₁ M).2 r⟩
 |dX fn f=>
  obtain⟨rfl,q,t,e,s,self,Q,v⟩:=r
  exact⟨rfl,q,t,A a (.head _) _ e,(I q s).1,self,(I q s).2 _ Q,v.map k⟩
 |qR=>
  obtain⟨rfl,e⟩:=r
  exact⟨rfl,A a (.head _) _ e⟩
 |xX l i=>
  obtain⟨d,rfl,ne,u,e,o,eo,zz⟩:=r
  exact⟨d,rfl,ne,ah u k.n,A a (.head _) _ e,o,A d (.tail _ (.head _)) _ eo,by exact k.ρ l u▸zz⟩
theorem eQ.carry{c G:Vw}{h h':Heap}{a:Addr}{fp:List Addr}{o:O}(k:Carry c h G h')(I:∀b∈c.x,b∈G.x/\∀o,h.get? b=some o->h'.get? b=some o)(A:∀b∈fp,∀o,h.get? b=some o->h'.get? b=some o)(r:eQ J c h a fp o):eQ J G h' a fp o:=r.map k.tr I A
theorem Tab.carry{x E:List Addr}{h h':Heap}(t:Tab J x h)(hp:∀o,h.get? J.P=some o->h'.get? J.P=some o)(I:∀b∈x,b∈E/\∀o,h.get? b=some o->h'.get? b=some o):Tab J E h':=t.imp (hp _) λ⟨G,C,e,r⟩=>⟨G,(I G C).1,hp _ e,CodeRec.map rfl (I G C).2 r⟩
theorem Rel.di{i:Nat}(h:c.live i){b:Addr}(U:b∈c.fp i):c.T b:=⟨i,h,U⟩
theorem Rel.Ah{s s':Shared}(R:Rel J c s)(W:Addr->Prop)(H:∀b o,s.heap.get? b=some o->¬W b->s'.heap.get? b=some o)(x:∀b,W b->J.h₀.objs.size<=b/\¬c.T b/\b∉c.x/\(b∈c.y\/b∈c.z))(a:∀b∈c.z,W b->∃o,s'.heap.get? b=some o/\∀vs,o.data≠.fields vs)(L:s.heap.objs.size<=s'.heap.objs.size)(M:s'.gens=s.gens)(E:s'.os=s.os):Step J c s c s' W:=by
 have low:∀b,b<J.h₀.objs.size->¬W b:=λ b U q=>aC (x b q).1 U
 have v:Carry c s.heap c s'.heap:=⟨ai _,λ D D=>rfl,λ D D=>rfl,λ D D t=>t,λ D D t=>t,λ b o e z C=>H b o e λ q=>z (.inr (x b q).2.2.2)⟩
 have I:∀b∈c.x,b∈c.x/\∀o,s.heap.get? b=some o->s'.heap.get? b=some o:=λ b U=>⟨U,λ o e=>H b o e λ q=>(x b q).2.2.1 U⟩
 obtain⟨G,eP,D⟩:=R.lq
 refine⟨⟨λ b o e np=>H b o (R.base b o e np) (low b (cD e)),R.tab.carry (λ o e=>H _ o e (low _ (cD eP))) I,R.lq,aa R.size L,λ i hi=> ?_,R.apart,λ b t=>⟨(R.high b t).1,ah (R.high b t).2 L⟩,λ b U=>⟨(R.nJ b U).1,?_,(R.nJ b U).2.2⟩,λ b U=>⟨(R.eB b U).1,ah (R.eB b U).2.1 L,(R.eB b U).2.2⟩,λ b U=>⟨(R.d8 b U).1,?_,(R.d8 b U).2.2⟩,M.trans R.gens,E.trans R.os⟩,v,λ D h=>h,λ D h=> .inl h,λ D h=>h,λ D h=>h,λ D h=> .inl h,λ b o e D m D D=>H b o e m,λ b o e D m=>⟨o.slots,H b o e m⟩,L⟩
 ·cases hd:c.Y.f i with
  |dead=>trivial
  |_=>
   have p:c.live i:=⟨hi,by refine hd.symm▸?_;nofun⟩
   exact hd▸(R.obj i hi).carry v I λ b U o e=>H b o e λ q=>(x b q).2.1 (Rel.di p U)
 ·obtain⟨o,e⟩:=(R.nJ b U).2.1
  exact⟨o,(I b U).2 o e⟩
 ·by_cases q:W b
  ·exact a b U q
  ·obtain⟨o,e,hd⟩:=(R.d8 b U).2.1
   exact⟨o,H b o e q,hd⟩
theorem Rel.other{s s':Shared}(R:Rel J c s)(W:Addr->Prop)(H:∀b o,s.heap.get? b=some o->¬W b->s'.heap.get? b=some o)(x:∀b,W b->J.h₀.objs.size<=b/\¬c.T b/\b∉c.x/\b∈c.y)(L:s.heap.objs.size<=s'.heap.objs.size)(h:s'.gens=s.gens)(E:s'.os=s.os):Step J c s c s' W:=R.Ah W H (λ b q=>⟨(x b q).1,(x b q).2.1,(x b q).2.2.1,.inl (x b q).2.2.2⟩) (λ b U q=>absurd (x b q).2.2.2 (R.d8 b U).2.2.2.2) L h E
noncomputable def Vw.set(c:Vw)(i:Nat)(o:O):Vw:={c with Y:=c.Y.set i o}
theorem Vw.rT{i:Nat}{o:O}(hi:c.live i){j:Nat}(h:(c.set i o).live j):c.live j:=by
 refine⟨h.1,λ q=> ?_⟩
 by_cases e:j=i
 ·subst e;exact hi.2 q
 ·exact h.2 (by refine(?_:(if j=i then o else c.Y.f j)=_);exact av e▸q)
theorem Vw.uO{i:Nat}{o:O}(hi:c.live i){b:Addr}(t:(c.set i o).T b):c.T b:=by
 obtain⟨j,s,U⟩:=t
 exact⟨j,Vw.rT hi s,U⟩
theorem Rel.upd{s s':Shared}(R:Rel J c s){i:Nat}(hi:c.live i)(o:O)(H:∀b A,s.heap.get? b=some A->b∉c.fp i->s'.heap.get? b=some A)(L:s.heap.objs.size<=s'.heap.objs.size)(G:s'.gens=s.gens)(E:s'.os=s.os)(new:Carry c s.heap (c.set i o) s'.heap->eQ J (c.set i o) s'.heap (c.ρ i) (c.fp i) o):Step J c s (c.set i o) s' cZ:=by
 have low:∀b,b<J.h₀.objs.size->b∉c.fp i:=λ b U q=>aC (R.high b (Rel.di hi q)).1 U
 have v:Carry c s.heap (c.set i o) s'.heap:=⟨ai _,λ D D=>rfl,λ D D=>rfl,λ D D t=>Vw.uO hi t,λ D D t=>t.imp (Vw.uO hi) id,λ b A e z D=>H b A e λ q=>z (.inl (Rel.di hi q))⟩
 have I:∀b∈c.x,b∈(c.set i o).x/\∀A,s.heap.get? b=some A->s'.heap.get? b=some A:=λ b U=>⟨U,λ A e=>H b A e λ q=>(R.nJ b U).2.2 (Rel.di hi q)⟩
 obtain⟨C,eP,D⟩:=R.lq
 refine⟨⟨λ b A e np=>H b A (R.base b A e np) (low b (cD e)),R.tab.carry (λ A e=>H _ A e (low _ (cD eP))) I,R.lq,aa R.size L,λ j M=> ?_,λ j k M N=>R.apart j k (Vw.rT hi M) (Vw.rT hi N),λ b t=> ?_,λ b U=>⟨(R.nJ b U).1,?_,λ t=>(R.nJ b U).2.2 (Vw.uO hi t)⟩,λ b U=>⟨(R.eB b U).1,ah (R.eB b U).2.1 L,λ t=>(R.eB b U).2.2.1 (Vw.uO hi t),(R.eB b U).2.2.2⟩,λ b U=>⟨(R.d8 b U).1,?_,λ t=>(R.d8 b U).2.2.1 (Vw.uO hi t),(R.d8 b U).2.2.2⟩,G.trans R.gens,E.trans R.os⟩,v,λ D h=>h,λ D h=> .inl h,λ D h=>h,λ D h=>h,λ D h=> .inl h,λ b A e z D D D=>H b A e λ q=>z (Rel.di hi q),λ b A e a D=>⟨A.slots,H b A e λ q=>(R.d8 b a).2.2.1 (Rel.di hi q)⟩,L⟩
 ·refine(?_:eQ J (c.set i o) s'.heap (c.ρ j) (c.fp j) (if j=i then o else c.Y.f j))
  by_cases e:j=i
  ·subst e;exact aw rfl▸new v
  ·refine(av e).symm▸?_
   cases hd:c.Y.f j with
   |dead=>trivial
   |_=>
    have p:c.live j:=⟨M,by refine hd.symm▸?_;nofun⟩
    exact hd▸(R.obj j M).carry v I λ b U A u=>H b A u λ q=>R.apart j i p hi e b U q
 ·have:=R.high b (Vw.uO hi t)
  exact⟨this.1,ah this.2 L⟩
 ·obtain⟨A,e⟩:=(R.nJ b U).2.1
  exact⟨A,(I b U).2 A e⟩
 ·obtain⟨A,e,hd⟩:=(R.d8 b U).2.1
  exact⟨A,H b A e λ q=>(R.d8 b U).2.2.1 (Rel.di hi q),hd⟩
noncomputable def Vw.new(c:Vw)(a:Addr)(fp:List Addr)(x:List Addr)(o:O):Vw:={ρ:=λ i=>if i=c.Y.n then a else c.ρ i,fp:=λ i=>if i=c.Y.n then fp else c.fp i,x:=x++c.x,y:=c.y,z:=c.z,Y:=c.Y.alloc o}
theorem Vw.uP{a:Addr}{fp x:List Addr}{o:O}{b:Addr}(t:(c.new a fp x o).T b):c.T b\/b∈fp:=by
 obtain⟨j,⟨s,hd⟩,U⟩:=t
 by_cases e:j=c.Y.n
 ·right
  have:(c.new a fp x o).fp j=fp:=aw e
  rw[this]at U;exact U
 ·left
  have M:(c.new a fp x o).fp j=c.fp j:=av e
  have u:(c.new a fp x o).Y.f j=c.Y.f j:=av e
  rw[M]at U;rw[u]at hd
  exact⟨j,⟨x9 (t9 s) e,hd⟩,U⟩
theorem qq(R:Rel J c s){b:Addr}(h:J.h₀.objs.size<=b):b≠J.P:=by
 obtain⟨o,e,D⟩:=R.lq
 exact λ q=>aC h (q▸cD e)
theorem Rel.O1{s s':Shared}(R:Rel J c s)(a:Addr)(fp x:List Addr)(o:O)(H:∀b A,b≠J.P->s.heap.get? b=some A->s'.heap.get? b=some A)(Q:Tab J (x++c.x) s'.heap)(z:s.heap.objs.size<=s'.heap.objs.size)(E:s'.gens=s.gens)(p:s'.os=s.os)(L:∀b∈fp,s.heap.objs.size<=b/\b<s'.heap.objs.size)(r:∀b∈x,s.heap.objs.size<=b/\b∉fp/\∃A,s'.heap.get? b=some A)(new:Carry c s.heap (c.new a fp x o) s'.heap->eQ J (c.new a fp x o) s'.heap a fp o):Step J c s (c.new a fp x o) s' cZ:=by
 have C:∀b,J.h₀.objs.size<=b->b≠J.P:=λ b h=>qq R h
 have k:∀A,s.heap.get? J.P=some A->A.cls= .none:=λ A e=>by
  rcases R.tab with q|⟨D,D,q,D⟩<;>(rw[q]at e;obtain rfl:=aM e;rfl)
 have v:Carry c s.heap (c.new a fp x o) s'.heap:=by
  have old:∀b,b<s.heap.objs.size->(c.new a fp x o).T b->c.T b:=λ b U t=>by
   rcases Vw.uP t with t|t
   ·exact t
   ·exact absurd U (aC (L b t).1)
  exact⟨dC _,λ i hi=>av (az hi),λ i hi=>av (az hi),old,λ b U t=>t.imp (old b U) id,λ b A e D y=>H b A (λ q=>by rw[k A (q▸e)]at y;exact y.elim (λ h=>nomatch h) λ h=>nomatch h) e⟩
 have I:∀b∈c.x,b∈(c.new a fp x o).x/\∀A,s.heap.get? b=some A->s'.heap.get? b=some A:=λ b U=>⟨dZ.mpr (.inr U),λ A e=>H b A (C b (R.nJ b U).1) e⟩
 refine⟨⟨λ b A e np=>H b A np (R.base b A e np),Q,R.lq,aa R.size z,λ j M=> ?_,λ i j hi M ne b U l=> ?_,λ b t=> ?_,λ b U=> ?_,λ b U=>⟨(R.eB b U).1,ah (R.eB b U).2.1 z,λ t=> ?_,λ q=> ?_⟩,λ b U=>⟨(R.d8 b U).1,?_,λ t=> ?_,λ q=> ?_,(R.d8 b U).2.2.2.2⟩,E.trans R.gens,p.trans R.os⟩,v,λ b h=>(I b h).1,λ b h=> ?_,λ D h=>h,λ D h=>h,λ D h=> .inl h,λ b A e D D np D=>H b A np e,λ b A e w D=>⟨A.slots,H b A (C b (R.d8 b w).1) e⟩,z⟩
 ·by_cases e:j=c.Y.n
  ·subst e
   have G:(c.new a fp x o).ρ c.Y.n=a:=aw rfl
   have u:(c.new a fp x o).fp c.Y.n=fp:=aw rfl
   have d:(c.new a fp x o).Y.f c.Y.n=o:=aw rfl
   refine G.symm▸u.symm▸d.symm▸?_;exact new v
  ·have G:(c.new a fp x o).ρ j=c.ρ j:=av e
   have u:(c.new a fp x o).fp j=c.fp j:=av e
   have d:(c.new a fp x o).Y.f j=c.Y.f j:=av e
   refine G.symm▸u.symm▸d.symm▸?_
   have g:=x9 (t9 M) e
   by_cases hd:c.Y.f j= .dead
   ·refine hd.symm▸?_;trivial
   ·exact(R.obj j g).carry v I λ b U A m=>H b A (C b (R.high b (Rel.di ⟨g,hd⟩ U)).1) m
 ·have fresh:∀{j:Nat},(c.new a fp x o).live j->j≠c.Y.n->c.live j:=λ{j} M e=>by
   refine⟨x9 (t9 M.1) e,?_⟩
   have d:(c.new a fp x o).Y.f j=c.Y.f j:=av e
   exact d▸M.2
  by_cases e:i=c.Y.n
  ·by_cases N:j=c.Y.n
   ·exact ne (e.trans N.symm)
   ·have G:(c.new a fp x o).fp i=fp:=aw e
    have u:(c.new a fp x o).fp j=c.fp j:=av N
    rw[G]at U;rw[u]at l
    exact aC (L b U).1 (R.high b (Rel.di (fresh M N) l)).2
  ·have G:(c.new a fp x o).fp i=c.fp i:=av e
   rw[G]at U
   by_cases N:j=c.Y.n
   ·have u:(c.new a fp x o).fp j=fp:=aw N
    rw[u]at l
    exact aC (L b l).1 (R.high b (Rel.di (fresh hi e) U)).2
   ·have u:(c.new a fp x o).fp j=c.fp j:=av N
    rw[u]at l
    exact R.apart i j (fresh hi e) (fresh M N) ne b U l
 ·rcases Vw.uP t with t|t
  ·exact⟨(R.high b t).1,ah (R.high b t).2 z⟩
  ·exact⟨aa R.size (L b t).1,(L b t).2⟩
 ·rcases dZ.mp U with U|U
  ·refine⟨aa R.size (r b U).1,(r b U).2.2,λ t=> ?_⟩
   rcases Vw.uP t with t|t
   ·exact aC (r b U).1 (R.high b t).2
   ·exact(r b U).2.1 t
  ·obtain⟨A,e⟩:=(R.nJ b U).2.1
   refine⟨(R.nJ b U).1,⟨A,H b A (C b (R.nJ b U).1) e⟩,λ t=> ?_⟩
   rcases Vw.uP t with t|t
   ·exact(R.nJ b U).2.2 t
   ·exact aC (L b t).1 (cD e)
 ·rcases Vw.uP t with t|t
  ·exact(R.eB b U).2.2.1 t
  ·exact aC (L b t).1 (R.eB b U).2.1
 ·rcases dZ.mp q with q|q
  ·exact aC (r b q).1 (R.eB b U).2.1
  ·exact(R.eB b U).2.2.2 q
 ·obtain⟨A,e,hd⟩:=(R.d8 b U).2.1
  exact⟨A,H b A (C b (R.d8 b U).1) e,hd⟩
 ·obtain⟨A,e,hd⟩:=(R.d8 b U).2.1
  rcases Vw.uP t with t|t
  ·exact(R.d8 b U).2.2.1 t
  ·exact aC (L b t).1 (cD e)
 ·obtain⟨A,e,hd⟩:=(R.d8 b U).2.1
  rcases dZ.mp q with q|q
  ·exact aC (r b q).1 (cD e)
  ·exact(R.d8 b U).2.2.2.1 q
 ·rcases dZ.mp h with h|h
  ·exact .inr (r b h).1
  ·exact .inl h
theorem Rel.new{s s':Shared}(R:Rel J c s)(a:Addr)(fp x:List Addr)(o:O)(H:∀b t,s.heap.get? b=some t->s'.heap.get? b=some t)(L:s.heap.objs.size<=s'.heap.objs.size)(h:s'.gens=s.gens)(E:s'.os=s.os)(u:∀b∈fp,s.heap.objs.size<=b/\b<s'.heap.objs.size)(A:∀b∈x,s.heap.objs.size<=b/\b∉fp/\∃t,s'.heap.get? b=some t)(new:Carry c s.heap (c.new a fp x o) s'.heap->eQ J (c.new a fp x o) s'.heap a fp o):Step J c s (c.new a fp x o) s' cZ:=R.O1 a fp x o (λ b t D e=>H b t e) (R.tab.carry (λ t e=>H _ t e) λ b U=>⟨jq _ U,λ t e=>H b t e⟩) L h E u A new
noncomputable def Vw.mN(c:Vw)(ys zs:List Addr):Vw:={c with y:=ys++c.y,z:=zs++c.z}
noncomputable def Vw.qS(c:Vw)(ys:List Addr):Vw:={c with y:=ys++c.y}
theorem Rel.yd{s s':Shared}(R:Rel J c s)(ys zs:List Addr)(H:∀b A,s.heap.get? b=some A->s'.heap.get? b=some A)(L:s.heap.objs.size<=s'.heap.objs.size)(M:s'.gens=s.gens)(E:s'.os=s.os)(j:∀b∈ys,s.heap.objs.size<=b/\b<s'.heap.objs.size)(v:∀b∈zs,s.heap.objs.size<=b/\b∉ys/\∃o,s'.heap.get? b=some o/\∀vs,o.data≠.fields vs):Step J c s (c.mN ys zs) s' cZ:=by
 have S:=R.other cZ (s':=s') (λ b o e D=>H b o e) (λ D h=>h.elim) L M E
 have T:∀b,(c.mN ys zs).T b->c.T b:=λ b t=>t
 have I:∀b∈c.x,b∈(c.mN ys zs).x/\∀o,s'.heap.get? b=some o->s'.heap.get? b=some o:=λ b U=>⟨U,λ D e=>e⟩
 have a:Carry c s.heap (c.mN ys zs) s'.heap:=⟨ai _,λ D D=>rfl,λ D D=>rfl,λ b D t=>T b t,λ b U t=>by
  rcases t with t|t|t
  ·exact .inl (T b t)
  ·rcases dZ.mp t with t|t
   ·exact absurd U (aC (j b t).1)
   ·exact .inr (.inl t)
  ·rcases dZ.mp t with t|t
   ·exact absurd U (aC (v b t).1)
   ·exact .inr (.inr t),λ b o e D D=>H b o e⟩
 refine⟨⟨S.rel.base,S.rel.tab,R.lq,S.rel.size,λ i hi=> ?_,R.apart,S.rel.high,S.rel.nJ,λ b U=> ?_,λ b U=> ?_,S.rel.gens,S.rel.os⟩,a,λ D h=>h,λ D h=> .inl h,λ b h=>dZ.mpr (.inr h),λ b h=>dZ.mpr (.inr h),λ b h=> ?_,λ b o e D D D D=>H b o e,λ b o e D D=>⟨o.slots,H b o e⟩,L⟩
 ·exact(R.obj i hi).carry a (λ b U=>⟨U,λ o e=>H b o e⟩) λ b D o e=>H b o e
 ·rcases dZ.mp U with U|U
  ·refine⟨aa R.size (j b U).1,(j b U).2,λ t=>aC (j b U).1 (R.high b t).2,λ q=> ?_⟩
   obtain⟨o,e⟩:=(R.nJ b q).2.1
   exact aC (j b U).1 (cD e)
  ·exact S.rel.eB b U
 ·rcases dZ.mp U with U|U
  ·refine⟨aa R.size (v b U).1,(v b U).2.2,λ t=>aC (v b U).1 (R.high b t).2,λ q=> ?_,λ q=> ?_⟩
   ·obtain⟨o,e⟩:=(R.nJ b q).2.1
    exact aC (v b U).1 (cD e)
   ·rcases dZ.mp q with q|q
    ·exact(v b U).2.1 q
    ·exact aC (v b U).1 (R.eB b q).2.1
  ·obtain⟨o,e,hd⟩:=(R.d8 b U).2.1
   refine⟨(R.d8 b U).1,⟨o,H b o e,hd⟩,(R.d8 b U).2.2.1,(R.d8 b U).2.2.2.1,λ q=> ?_⟩
   rcases dZ.mp q with q|q
   ·exact aC (j b q).1 (cD e)
   ·exact(R.d8 b U).2.2.2.2 q
 ·rcases dZ.mp h with h|h
  ·exact .inr (v b h).1
  ·exact .inl h
theorem Rel.vY{s s':Shared}(R:Rel J c s)(ys:List Addr)(H:∀b t,s.heap.get? b=some t->s'.heap.get? b=some t)(L:s.heap.objs.size<=s'.heap.objs.size)(h:s'.gens=s.gens)(E:s'.os=s.os)(j:∀b∈ys,s.heap.objs.size<=b/\b<s'.heap.objs.size):Step J c s (c.qS ys) s' cZ:=R.yd ys [] H L h E j (λ b U=>by exact absurd U dt)
theorem Rel.slots{s s':Shared}(R:Rel J c s)(H:∀b o,s.heap.get? b=some o->b∉c.z->s'.heap.get? b=some o)(v:∀b o,s.heap.get? b=some o->b∈c.z->∃y,s'.heap.get? b=some {o with slots:=y})(L:s.heap.objs.size<=s'.heap.objs.size)(M:s'.gens=s.gens)(E:s'.os=s.os):Step J c s c s' cZ:=by
 have a:∀b,b<J.h₀.objs.size->b∉c.z:=λ b U q=>aC (R.d8 b q).1 U
 have k:Carry c s.heap c s'.heap:=⟨ai _,λ D D=>rfl,λ D D=>rfl,λ D D t=>t,λ D D t=>t,λ b o e z C=>H b o e λ q=>z (.inr (.inr q))⟩
 have I:∀b∈c.x,b∈c.x/\∀o,s.heap.get? b=some o->s'.heap.get? b=some o:=λ b U=>⟨U,λ o e=>H b o e λ q=>(R.d8 b q).2.2.2.1 U⟩
 obtain⟨N,eP,D⟩:=R.lq
 refine⟨⟨λ b o e np=>H b o (R.base b o e np) (a b (cD e)),R.tab.carry (λ o e=>H _ o e (a _ (cD eP))) I,R.lq,aa R.size L,λ i hi=> ?_,R.apart,λ b t=>⟨(R.high b t).1,ah (R.high b t).2 L⟩,λ b U=>⟨(R.nJ b U).1,?_,(R.nJ b U).2.2⟩,λ b U=>⟨(R.eB b U).1,ah (R.eB b U).2.1 L,(R.eB b U).2.2⟩,λ b U=>⟨(R.d8 b U).1,?_,(R.d8 b U).2.2⟩,M.trans R.gens,E.trans R.os⟩,k,λ D h=>h,λ D h=> .inl h,λ D h=>h,λ D h=>h,λ D h=> .inl h,λ b o e D D D q=>H b o e q,λ b o e q D=>v b o e q,L⟩
 ·cases hd:c.Y.f i with
  |dead=>trivial
  |_=>
   have p:c.live i:=⟨hi,by refine hd.symm▸?_;nofun⟩
   exact hd▸(R.obj i hi).carry k I λ b U o e=>H b o e λ q=>(R.d8 b q).2.2.1 (Rel.di p U)
 ·obtain⟨o,e⟩:=(R.nJ b U).2.1
  exact⟨o,(I b U).2 o e⟩
 ·obtain⟨o,e,hd⟩:=(R.d8 b U).2.1
  obtain⟨y,G⟩:=v b o e U
  exact⟨_,G,hd⟩
noncomputable def ja(d:Nat)(A:Around):Prop:=A.handled=none/\A.depth+8*d<800/\A.units+60*d<9000
theorem rp{u k m d b:Nat}(h:u+k*(d+1)<b)(hm:m<=k):u+m+k*d<b:=by
 refine b9 ?_ h
 rw[Nat.mul_succ,gp,ff m];exact gL (gL hm _) u
theorem BP{u k b d N:Nat}(h:u+k*d<b)(hd:N<=d):u+k*N<b:=b9 (gL (nS k hd) u) h
theorem ja.le{d N:Nat}(h:ja d A)(hd:N<=d):ja N A:=⟨h.1,BP h.2.1 hd,BP h.2.2 hd⟩
theorem ja.in1(h:ja (d+1) A):ja d A.in1:=⟨h.1,rp (m:=0) h.2.1 (by decide),rp (m:=1) h.2.2 (by decide)⟩
theorem ja.deeper(h:ja (d+1) A)(env:Env):ja d (A.deeper env):=⟨h.1,rp (m:=1) h.2.1 (by decide),rp (m:=3) h.2.2 (by decide)⟩
noncomputable def fP(env:Env)(h:Heap)(x:Str)(v:Value):Prop:=(env.kindOf x=some .local/\∃m,h.Ns env.locals m/\m x=some v)\/((env.kindOf x=some .cell\/env.kindOf x=some .free)/\∃a,env.cells.lookup x=some a/\h.IsCell a (some v))
noncomputable def Own(env:Env)(b:Addr):Prop:=b=env.locals\/∃x,env.kindOf x=some .cell/\env.cells.lookup x=some b
noncomputable def Dk(env:Env)(x:Str)(b:Addr):Prop:=(env.kindOf x=some .local/\b=env.locals)\/(env.kindOf x=some .cell/\env.cells.lookup x=some b)
theorem Dk.own{x:Str}{b:Addr}(h:Dk env x b):Own env b:=h.elim (λ z=> .inl z.2) λ z=> .inr ⟨x,z⟩
structure ye(env:Env)(h:Heap):Prop where
 loc:∃o es ep,h.get? env.locals=some o/\o.data= .dict es ep/\StrKeys es
 cell:∀x,env.kindOf x=some .cell->∃a v,env.cells.lookup x=some a/\h.IsCell a v/\a≠env.locals
 inj:∀x y a,env.kindOf x=some .cell->env.kindOf y=some .cell->env.cells.lookup x=some a->env.cells.lookup y=some a->x=y
 sep:∀y a,env.kindOf y=some .free->env.cells.lookup y=some a->¬Own env a
theorem ye.keep{h h':Heap}(H:ye env h)(k:∀b o,Own env b->h.get? b=some o->∃y,h'.get? b=some {o with slots:=y}):ye env h' where
 loc:=let⟨o,es,ep,e,r⟩:=H.loc;let⟨y,U⟩:=k _ _ (.inl rfl) e;⟨_,es,ep,U,r⟩
 cell:=λ x I=>let⟨a,v,N,⟨o,e,r⟩,ne⟩:=H.cell x I;let⟨y,U⟩:=k _ _ (.inr ⟨x,I,N⟩) e;⟨a,v,N,⟨_,U,r⟩,ne⟩
 inj:=H.inj
 sep:=H.sep
theorem fP.keep{h h':Heap}{x:Str}{v:Value}(V:fP env h x v)(k1:∀o,h.get? env.locals=some o->∃y,h'.get? env.locals=some {o with slots:=y})(k2:∀a o,env.cells.lookup x=some a->h.get? a=some o->∃y,h'.get? a=some {o with slots:=y}):fP env h' x v:=by
 rcases V with⟨H,m,⟨o,es,ep,e,r⟩,hm⟩|⟨H,a,N,o,e,hd⟩
 ·obtain⟨y,U⟩:=k1 o e
  exact .inl ⟨H,m,⟨_,es,ep,U,r⟩,hm⟩
 ·obtain⟨y,U⟩:=k2 a o N e
  exact .inr ⟨H,a,N,_,U,hd⟩
section
variable{M:Model}
theorem lr{x:Str}{v:Value}{Q:dR}(H:env.scope.kind= .function)(V:fP env s.heap x v)(w:(x==("__classdict__":Str))=false)(h:Q v s):wpAny M A (loadName env x) Q E s:=by
 rcases V with⟨N,m,n,hm⟩|⟨N|N,a,C,j⟩
 ·exact wpAny_loadName_local H N n hm h
 ·exact wpAny_loadName_cell H N C j h
 ·exact wpAny_loadName_free H N C j h w
theorem uQ{x:Str}{v:Value}{Q:Unit->Shared->Prop}(C:env.scope.kind= .function)(H:ye env s.heap)(I:env.kindOf x=some .local\/env.kindOf x=some .cell)(h:∀h' tk,ye env h'->fP env h' x v->(∀y u,y≠x->fP env s.heap y u->fP env h' y u)->(∀b,¬Dk env x b->h'.get? b=s.heap.get? b)->h'.objs.size=s.heap.objs.size->Q () {s with heap:=h',toks:=tk}):wpAny M A (storeName env x v) Q E s:=by
 obtain⟨o,es,ep,e,hd,z⟩:=H.loc
 rcases I with I|I
 ·have t:s.heap.Ns env.locals (λ y=>nsFind es y):=⟨o,es,ep,e,hd,z,λ D=>rfl⟩
  refine wpAny_storeName_local I t (λ h' r c=> ?_) (by refine C.symm▸?_;rfl)
  refine h h' _ ⟨?_,λ y j=> ?_,H.inj,H.sep⟩ (.inl ⟨I,_,r,aw rfl⟩) (λ y u G V=> ?_) (λ b L=>c.2 b λ q=>L (.inl ⟨I,q⟩)) c.1
  ·obtain⟨i,BQ,nM,e',pj,So,D⟩:=r
   exact⟨i,BQ,nM,e',pj,So⟩
  ·obtain⟨a,w,N,ic,ne'⟩:=H.cell y j
   exact⟨a,w,N,ic.sameBut c ne',ne'⟩
  ·rcases V with⟨N,m,hm,n⟩|⟨N,a,d,n⟩
   ·refine .inl ⟨N,_,r,?_⟩
    refine(?_:(if y=x then some v else nsFind es y)=some u)
    refine(av G).symm▸?_
    obtain⟨OZ,Va,Vb,T,g,D,yf⟩:=hm
    rw[e]at T;obtain rfl:=aM T
    rw[hd]at g;cases g
    rw[yf];exact n
   ·refine .inr ⟨N,a,d,n.sameBut c ?_⟩
    rcases N with N|N
    ·obtain⟨k,D,p,D,ne⟩:=H.cell y N
     rw[d]at p;obtain rfl:=aM p;exact ne
    ·exact λ q=>H.sep y a N d (.inl q)
 ·obtain⟨a,va,N,ia,ne⟩:=H.cell x I
  refine wpAny_storeName_cell C I N ia λ h' l c=> ?_
  refine h h' _ ⟨?_,λ y j=> ?_,H.inj,H.sep⟩ (.inr ⟨.inl I,a,N,l⟩) (λ y u G V=> ?_) (λ b L=>c.2 b λ q=>L (.inr ⟨I,q▸N⟩)) c.1
  ·exact⟨o,es,ep,(c.2 _ (Ne.symm ne)).trans e,hd,z⟩
  ·by_cases f:y=x
   ·subst f;exact⟨a,_,N,l,ne⟩
   ·obtain⟨k,w,p,ic,ne'⟩:=H.cell y j
    exact⟨k,w,p,ic.sameBut c λ q=>f (H.inj y x k j I p (q▸N)),ne'⟩
  ·rcases V with⟨U,m,hm,n⟩|⟨U,k,d,n⟩
   ·exact .inl ⟨U,m,hm.sameBut c (Ne.symm ne),n⟩
   ·refine .inr ⟨U,k,d,n.sameBut c λ q=> ?_⟩
    rcases U with U|U
    ·exact G (H.inj y x k U I d (q▸N))
    ·exact H.sep y k U d (.inr ⟨x,I,q▸N⟩)
end
structure uR(J:Cx)(c:Vw)(env:Env)(h:Heap):Prop where
 kind:env.scope.kind= .function
 glob:env.globals=mainGlobals
 Mj:env.builtins=builtinsNs
 H:ye env h
 own:∀b,Own env b->b∈c.y\/b∈c.z
 seen:∀x a,env.cells.lookup x=some a->J.h₀.objs.size<=a/\¬c.T a/\a<h.objs.size
 RJ:∀x,env.kindOf x=some .free->(env.cells.lookup x).isSome=true
noncomputable def isVar:Option NameKind->Bool
 |some .local|some .cell|some .free=>true
 |_=>false
noncomputable def BR(c:Vw)(env:Env)(nm:List (Str×Nat))(B:ar)(h:Heap):Prop:=∀x i v,nm.lookup x=some i->isVar (env.kindOf x)=true->B[i]? =some v->v= .aF\/∃u,fP env h x u/\aD c h v u
theorem Step.lu{c G:Vw}{s s':Shared}{W:Addr->Prop}(S:Step J c s G s' W)(R:Rel J c s){b:Addr}{o:Obj}(j:b∈c.y)(m:¬W b)(e:s.heap.get? b=some o):s'.heap.get? b=some o:=S.kept b o e (R.eB b j).2.2.1 m (qq R (R.eB b j).1) λ q=>(R.d8 b q).2.2.2.2 j
theorem Rel.mX(R:Rel J c s){b:Addr}(h:b∈c.y\/b∈c.z):J.h₀.objs.size<=b/\¬c.T b/\b∉c.x/\b<s.heap.objs.size:=by
 rcases h with h|h
 ·exact⟨(R.eB b h).1,(R.eB b h).2.2.1,(R.eB b h).2.2.2,(R.eB b h).2.1⟩
 ·obtain⟨o,e,D⟩:=(R.d8 b h).2.1
  exact⟨(R.d8 b h).1,(R.d8 b h).2.2.1,(R.d8 b h).2.2.2.1,cD e⟩
theorem Step.uS{c G:Vw}{s s':Shared}{W:Addr->Prop}(S:Step J c s G s' W)(R:Rel J c s){b:Addr}{o:Obj}(j:b∈c.y\/b∈c.z)(m:¬W b)(e:s.heap.get? b=some o):∃y,s'.heap.get? b=some {o with slots:=y}:=S.there e (R.mX j).2.1 m (qq R (R.mX j).1)
theorem uR.step{c G:Vw}{s s':Shared}{W:Addr->Prop}(H:uR J c env s.heap)(R:Rel J c s)(S:Step J c s G s' W)(h:∀b,Own env b->¬W b):uR J G env s'.heap where
 kind:=H.kind
 glob:=H.glob
 Mj:=H.Mj
 H:=H.H.keep λ b o A e=>S.uS R (H.own b A) (h b A) e
 own:=λ b A=>(H.own b A).imp (S.y b) (S.z b)
 seen:=λ x a N=>⟨(H.seen x a N).1,λ t=>(H.seen x a N).2.1 (S.carry.old a (H.seen x a N).2.2 t),ah (H.seen x a N).2.2 S.size⟩
 RJ:=H.RJ
theorem fP.step{c G:Vw}{s s':Shared}{W:Addr->Prop}{x:Str}{u:Value}(V:fP env s.heap x u)(H:uR J c env s.heap)(R:Rel J c s)(S:Step J c s G s' W)(b:¬W env.locals/\∀x a,env.cells.lookup x=some a->¬W a):fP env s'.heap x u:=V.keep (λ o e=>S.uS R (H.own _ (.inl rfl)) b.1 e) λ a o N e=>S.there e (H.seen x a N).2.1 (b.2 x a N) (qq R (H.seen x a N).1)
theorem BR.step{c G:Vw}{s s':Shared}{W:Addr->Prop}{nm:List (Str×Nat)}(F:BR c env nm B s.heap)(H:uR J c env s.heap)(R:Rel J c s)(S:Step J c s G s' W)(b:¬W env.locals/\∀x a,env.cells.lookup x=some a->¬W a):BR G env nm B s'.heap:=λ x i v N L hi=>by
 rcases F x i v N L hi with q|⟨u,V,r⟩
 ·exact .inl q
 ·exact .inr ⟨u,V.step H R S b,r.carry S.carry⟩
inductive gy(J:Cx)(c:Vw)(s:Shared)(Q:eY)(x:Value)(s':Shared):Prop
 |mk (c':Vw) (v:V) (S:Step J c s c' s' cZ) (r:aD c' s'.heap v x) (q:Q v c'.Y):gy J c s Q x s'
inductive yg(J:Cx)(c:Vw)(s:Shared){α:Type}(Q:α->Mem->Prop)(b:α)(s':Shared):Prop
 |mk (c':Vw) (S:Step J c s c' s' cZ) (q:Q b c'.Y):yg J c s Q b s'
noncomputable def bL(J:Cx)(A:Around)(E:dR)(c:Vw)(s:Shared)(t:Sem Value)(Q:eY):Prop:=wpAny J.ax A t (gy J c s Q) E s
theorem bL.go{t:Sem Value}{P:dR}(h:bL J A E c s t Q)(f:∀x s' G v,Step J c s G s' cZ->aD G s'.heap v x->Q v G.Y->P x s'):wpAny J.ax A t P E s:=aV h (λ x s' ⟨G,v,S,r,q⟩=>f x s' G v S r q) λ D D z=>z
theorem bL.after{c c₁:Vw}{s p:Shared}{t:Sem Value}(S:Step J c s c₁ p cZ)(h:bL J A E c₁ p t Q):wpAny J.ax A t (gy J c s Q) E p:=aV h (λ D D ⟨G,v,l,r,q⟩=>⟨G,v,S.trans l,r,q⟩) λ D D e=>e
theorem bL.val{x:Value}{v:V}(R:Rel J c s)(r:aD c s.heap v x)(q:Q v c.Y):bL J A E c s (pure x) Q:=aA ⟨c,v,.refl R,r,q⟩
theorem Rel.toks(R:Rel J c s)(t:Nat):Rel J c {s with toks:=t}:=⟨R.base,R.tab,R.lq,R.size,R.obj,R.apart,R.high,R.nJ,R.eB,R.d8,R.gens,R.os⟩
theorem Step.toks{W:Addr->Prop}(R:Rel J c s)(t:Nat):Step J c s c {s with toks:=t} W:=⟨R.toks t,.refl ..,λ D h=>h,λ D h=> .inl h,λ D h=>h,λ D h=>h,λ D h=> .inl h,λ D D e D D D D=>e,λ D o e D D=>⟨o.slots,e⟩,ai _⟩
noncomputable def vZ(A:Around)(c:Vw):Prop:=∃l,A.frames=some l/\∀e∈l,e.scope.kind≠.module/\∃L,e.frame=some L/\L∈c.z
theorem vZ.step{c G:Vw}{s s':Shared}{W:Addr->Prop}(k:vZ A c)(S:Step J c s G s' W):vZ A G:=let⟨l,h,q⟩:=k;⟨l,h,λ e he=>let⟨a,L,b,d⟩:=q e he;⟨a,L,b,S.z L d⟩⟩
theorem vZ.in1(k:vZ A c):vZ A.in1 c:=k
noncomputable def small(i:Int):Bool:=decide (i.natAbs<2^64)
theorem Oy{i:Int}:small i=true↔i.natAbs<2^64:=by simp[small]
theorem Ai{a:Int}(h:a.natAbs<2^64):Builtin.Int.intBits a<=64:=by
 delta Builtin.Int.intBits
 split
 ·exact lg _ _
 ·rename_i U
  exact(Nat.log2_lt λ q=>U (dD.mpr (Int.natAbs_eq_zero.mp q))).mpr h
theorem noPylong{a b:Int}(U:b.natAbs<2^64):Builtin.divisionGoesByPylong a b=false:=by
 delta Builtin.divisionGoesByPylong
 simp only[Bool.and_eq_false_iff,decide_eq_false_iff_not]
 left
 split
 ·decide
 ·rename_i h
  exact aC (aa (gI (Nat.div_le_self _ _)) (aa (gI (dG ((Nat.log2_lt λ q=>h (dD.mpr (Int.natAbs_eq_zero.mp q))).mpr U))) (by decide)))
noncomputable def O.fq:O->Option ar
 | .list vs=>some vs
 |_=>none
theorem O.uT{o:O}{vs:ar}(h:o.fq=some vs):o= .list vs:=by cases o<;>first|(cases h;rfl)|exact nn h
noncomputable def bS(Y:Mem):V->Option ar
 | .list vs=>some vs
 | .ref i=>(Y.f i).fq
 |_=>none
theorem dk{v:V}{vs:ar}{x:Value}(R:Rel J c s)(r:aD c s.heap v x)(e:bS c.Y v=some vs):∃a g,x= .ref a/\SeqAt s.heap "list" a g/\ay c s.heap vs g:=by
 induction v using Mine.V.casesOn with
 |list ws=>obtain rfl:=aM e;obtain⟨a,g,rfl,h,D,q⟩:=r;exact⟨a,g,rfl,h,q⟩
 |ref i=>
  obtain⟨hi,rfl⟩:=r
  have t:=R.obj i hi
  rw[O.uT e]at t
  obtain⟨D,g,h,q⟩:=t
  exact⟨_,g,rfl,h,q⟩
 |_=>first|exact nf e|exact nn e|subst e
theorem nY(R:Rel J c s):¬c.N s.heap.objs.size:=by
 rintro(t|t|t)
 ·exact d0 _ (R.high _ t).2
 ·exact d0 _ (R.eB _ t).2.1
 ·obtain⟨o,e,D⟩:=(R.d8 _ t).2.1
  exact d0 _ (cD e)
theorem Rel.push(R:Rel J c s)(o:Obj)(t:Nat):Step J c s c {s with heap:=s.heap.push o,toks:=t} cZ:=R.other cZ (λ D D e D=>bt o e) (λ D h=>h.elim) (by refine(?_:_<=(s.heap.push o).objs.size);rw[cf];exact au _ _) rfl rfl
theorem nZ(R:Rel J c s){vs:ar}{g:aL}(r:ay c s.heap vs g){t:Nat}(q:Q (.list vs) c.Y):gy J c s Q (.ref s.heap.objs.size) {s with heap:=s.heap.push {cls:= .type "list",data:= .seq g.toArray},toks:=t}:=have S:=R.push {cls:= .type "list",data:= .seq g.toArray} t
 ⟨c,.list vs,S,⟨_,g,rfl,⟨0,bM _ rfl⟩,nY R,r.carry S.carry⟩,q⟩
theorem Dm(R:Rel J c s){vs:ar}{g:aL}(r:ay c s.heap vs g){t:Nat}(q:Q (.tuple vs) c.Y):gy J c s Q (.ref s.heap.objs.size) {s with heap:=s.heap.push {cls:= .type "tuple",data:= .seq g.toArray},toks:=t}:=have S:=R.push {cls:= .type "tuple",data:= .seq g.toArray} t
 ⟨c,.tuple vs,S,⟨_,g,rfl,⟨0,bM _ rfl⟩,nY R,r.carry S.carry⟩,q⟩
theorem uU(R:Rel J c s){vs:ar}{g:aL}(r:ay c s.heap vs g){t:Nat}(q:Q (.ref c.Y.n) (c.Y.alloc (.list vs))):gy J c s Q (.ref s.heap.objs.size) {s with heap:=s.heap.push {cls:= .type "list",data:= .seq g.toArray},toks:=t}:=by
 have S:=R.new (s':={s with heap:=s.heap.push {cls:= .type "list",data:= .seq g.toArray},toks:=t}) s.heap.objs.size [s.heap.objs.size] [] (.list vs) (λ D D e=>bt _ e)
  (by refine(?_:_<=(s.heap.push _).objs.size);rw[cf];exact au _ _) rfl rfl (λ b U=>by replace U:=cR.mp U;subst U;exact⟨ai _,by refine(?_:_<(s.heap.push _).objs.size);rw[cf];exact bF _⟩) (λ b U=>by exact absurd U dt)
  λ k=>⟨rfl,g,⟨0,bM _ rfl⟩,r.carry k⟩
 refine⟨_,.ref c.Y.n,S,⟨bF _,?_⟩,q⟩
 refine(?_:_=Value.ref (if c.Y.n=c.Y.n then _ else _))
 exact(aw rfl).symm▸rfl
noncomputable def E4(op:Operator)(i j:Int):Option Int:=match op with
 | .Add=>some (i+j)
 | .Sub=>some (i-j)
 | .Mult=>if small i&&small j then some (i*j)else none
 | .FloorDiv=>if decide (j≠0)&&small j then some (i.fdiv j)else none
 | .Mod=>if decide (j≠0)then some (i.fmod j)else none
 | .Pow=>if decide (0<=j)&&(decide (j<=1000)&&small i)then some (i^j.toNat)else none
 | .LShift=>if decide (0<=j)&&(decide (j<=1000)&&small i)then some (i*2^j.toNat)else none
 | .RShift=>if decide (0<=j)then some (i.fdiv (2^j.toNat))else none
 | .BitAnd=>if decide (0<=i)&&decide (0<=j)then some ((i.toNat&&&j.toNat:Nat):Int)else none
 | .BitOr=>if decide (0<=i)&&decide (0<=j)then some ((i.toNat|||j.toNat:Nat):Int)else none
 | .BitXor=>some (Builtin.bitXor i j)
 |_=>none
noncomputable def O2(xs ys:Option ar):Option V:=match xs,ys with
 |some xs,some ys=>if decide (xs.length+ys.length<=1000000)then some (.list (xs++ys))else none
 |_,_=>none
noncomputable def mulL(xs:Option ar)(n:Int):Option V:=match xs with
 |some xs=>if decide (0<=n)&&(decide (n<=1000)&&decide (xs.length<=1000))then some (.list (List.replicate n.toNat xs).flatten)else none
 |none=>none
noncomputable def V.int?:V->Option Int
 | .int i=> .some i
 |_=> .none
noncomputable def V.bool?:V->Option Bool
 | .bool b=> .some b
 |_=> .none
noncomputable def V.Dn:V->Option aj
 | .str x=> .some x
 |_=> .none
noncomputable def V.Aj:V->Option aj
 | .bytes x=> .some x
 |_=> .none
noncomputable def V.KY:V->Option ar
 | .list x=> .some x
 |_=> .none
noncomputable def V.wa:V->Option ar
 | .tuple x=> .some x
 |_=> .none
theorem V.gh{v:V}{i:Int}(h:v.int?=some i):v= .int i:=by cases v<;>first|(cases h;rfl)|exact nn h
theorem V.rU{v:V}{i:Bool}(h:v.bool?=some i):v= .bool i:=by cases v<;>first|(cases h;rfl)|exact nn h
theorem V.n7{v:V}{i:aj}(h:v.Dn=some i):v= .str i:=by cases v<;>first|(cases h;rfl)|exact nn h
theorem V.uV{v:V}{i:aj}(h:v.Aj=some i):v= .bytes i:=by cases v<;>first|(cases h;rfl)|exact nn h
theorem V.E5{v:V}{i:ar}(h:v.KY=some i):v= .list i:=by cases v<;>first|(cases h;rfl)|exact nn h
theorem V.pC{v:V}{i:ar}(h:v.wa=some i):v= .tuple i:=by cases v<;>first|(cases h;rfl)|exact nn h
theorem bind_some{α z:Type}{o:Option α}{f:α->Option z}{b:z}(h:o.bind f=some b):∃a,o=some a/\f a=some b:=Option.bind_eq_some_iff.mp h
noncomputable def E6(Y:Mem)(a b:V):Option V:=match a with
 | .str x=>b.Dn.bind λ y=>if decide (x.length+y.length<=1000000)then some (.str (x++y))else none
 | .bytes x=>b.Aj.bind λ y=>if decide (x.length+y.length<=1000000)then some (.bytes (x++y))else none
 |a=>O2 (bS Y a) (bS Y b)
noncomputable def E7(Y:Mem)(a:V)(n:Int):Option V:=mulL (bS Y a) n
noncomputable def Sp(Y:Mem)(op:Operator)(a b:V):Option V:=match op with
 | .Add=>E6 Y a b
 | .Mult=>b.int?.bind (E7 Y a)
 |_=>none
noncomputable def mn(Y:Mem)(op:Operator)(a b:V):Option V:=match a.int? with
 |some i=>b.int?.bind λ j=>(E4 op i j).map .int
 |none=>Sp Y op a b
theorem bitAnd_nn{i j:Int}(hi:0<=i)(s:0<=j):Builtin.bitAnd i j=((i.toNat&&&j.toNat:Nat):Int):=by
 delta Builtin.bitAnd;rw[af hi,af s]
theorem Ak(i:Int):Builtin.bitNot (Builtin.bitNot i)=i:=by delta Builtin.bitNot;omega
theorem E8{i j:Int}(hi:0<=i)(s:0<=j):Builtin.bitOr i j=((i.toNat|||j.toNat:Nat):Int):=by
 have M:¬0<=Builtin.bitNot i:=by delta Builtin.bitNot;omega
 have u:¬0<=Builtin.bitNot j:=by delta Builtin.bitNot;omega
 unfold Builtin.bitOr Builtin.bitAnd;refine(cg M).symm▸(cg u).symm▸?_
 simp only[Ak]
theorem bl{b:Bool}{α:Type}{x y:α}(h:(if b=true then some x else none)=some y):b=true/\x=y:=by
 induction b<;>simp at h;exact⟨rfl,h⟩
theorem Mk(R:Rel J c s){op:Operator}{i j r:Int}{t u:Tok}(h:E4 op i j=some r)(q:Q (.int r) c.Y):bL J A E c s (binaryOp op (.int i t) (.int j u)) Q:=by
 have fin:∀{z:Int}{tk:Nat}{H:Tok},z=r->(gy J c s Q (.int z H) {s with toks:=tk}):=λ{z tk H} e=>⟨c,.int r,Step.toks R _,⟨H,by exact e.symm▸rfl⟩,q⟩
 induction op<;>(try cases h)
 ·exact add_int (fin rfl)
 ·exact sub_int (fin rfl)
 ·obtain⟨U,e⟩:=bl h
  replace U:=(ao U).imp ae ae
  exact mul_int (fin e) (.of_left (Ai U.1))
 ·obtain⟨U,e⟩:=bl h
  exact mod_int' (ae U) (fin e)
 ·obtain⟨U,e⟩:=bl h
  replace U:=(ao U).imp ae λ h=>(ao h).imp ae ae
  exact pow_int_small U.1 (by omega) U.2.2 (fin e)
 ·obtain⟨U,e⟩:=bl h
  replace U:=(ao U).imp ae λ h=>(ao h).imp ae ae
  exact lshift_int_small U.1 (by omega) U.2.2 (fin e)
 ·obtain⟨U,e⟩:=bl h
  exact rshift_int (ae U) (fin e)
 ·obtain⟨U,e⟩:=bl h
  replace U:=(ao U).imp ae ae
  exact or_int (fin (by exact E8 U.1 U.2▸e))
 ·exact xor_int (fin rfl)
 ·obtain⟨U,e⟩:=bl h
  replace U:=(ao U).imp ae ae
  exact and_int (fin (by exact bitAnd_nn U.1 U.2▸e))
 ·obtain⟨U,e⟩:=bl h
  replace U:=(ao U).imp ae ae
  exact floordiv_int U.1 (fin e) (.inl (noPylong U.2))
theorem gS(x y:aj):strOf x++strOf y=strOf (x++y):=by
 refine(?_:Str.mk _=Str.mk _)
 simp[strOf]
theorem aU(x:aj):(strOf x).length=x.length:=by rfl
theorem aQ:sizeLine=16777216:=rfl
theorem Al(R:Rel J c s){x y:aj}{t u:Tok}(N:x.length+y.length<=1000000)(q:Q (.str (x++y)) c.Y):bL J A E c s (binaryOp .Add (.str (strOf x) t) (.str (strOf y) u)) Q:=add_str (λ n tk=>⟨c,.str (x++y),Step.toks R _,⟨n,by rw[gS]⟩,q⟩) (by rw[aU,aU,aQ];omega)
theorem yh(R:Rel J c s){v w:V}{xs ys:ar}{x y:Value}(r1:aD c s.heap v x)(r2:aD c s.heap w y)(M:bS c.Y v=some xs)(u:bS c.Y w=some ys)(N:xs.length+ys.length<=1000000)(q:Q (.list (xs++ys)) c.Y):bL J A E c s (binaryOp .Add x y) Q:=by
 obtain⟨a,g,rfl,⟨n,k⟩,v1⟩:=dk R r1 M
 obtain⟨b,e,rfl,⟨n2,l⟩,v2⟩:=dk R r2 u
 refine P.add_list k l ?_ (by rw[cA,cA,<-v1.length,<-v2.length,aQ];omega)
 have:=nZ R (t:=s.toks) (v1.append v2) q
 simpa using this
theorem SeqAt.isList{a:Addr}{g:aL}(x:SeqAt h "list" a g):h.IsList a g.toArray:=let⟨n,e⟩:=x;⟨_,e,rfl,n,rfl⟩
theorem SeqAt.dz{a:Addr}{g:aL}(x:SeqAt h "tuple" a g):h.IsTuple a g.toArray:=let⟨n,e⟩:=x;⟨_,e,rfl,n,rfl⟩
theorem wb(R:Rel J c s){x y:aj}{t u:Tok}(I:∀b∈x,b<256)(j:∀b∈y,b<256)(N:x.length+y.length<=1000000)(q:Q (.bytes (x++y)) c.Y):bL J A E c s (binaryOp .Add (.bytes (bP x) t) (.bytes (bP y) u)) Q:=bytes_add_K (b:=x.map UInt8.ofNat) (c:=y.map UInt8.ofNat) (d:=(x++y).map UInt8.ofNat) (by simp;exact aa N (by decide)) (by simp) λ n k=>⟨c,.bytes (x++y),Step.toks R _,⟨λ b U=>by rcases dZ.mp U with h|h;exact I b h;exact j b h,n,rfl⟩,q⟩
noncomputable def b6(Y:Mem):V->Option Bool
 | .bool b=>some b
 | .int i=>some (i !=0)
 | .none=>some false
 | .str x=>if decide (x.length<=1000000)then some (decide (x≠[]))else none
 |v=>match bS Y v with
  |some vs=>if decide (vs.length<=1000000)then some (!vs.isEmpty)else none
  |none=>none
noncomputable def yi(J:Cx)(A:Around)(E:dR)(c:Vw)(s:Shared)(t:Sem Bool)(Q:Bool->Mem->Prop):Prop:=wpAny J.ax A t (yg J c s Q) E s
theorem yi.go{t:Sem Bool}{Q:Bool->Mem->Prop}{P:Bool->Shared->Prop}(h:yi J A E c s t Q)(f:∀b s' G,Step J c s G s' cZ->Q b G.Y->P b s'):wpAny J.ax A t P E s:=aV h (λ b s' ⟨G,S,q⟩=>f b s' G S q) λ D D z=>z
theorem yi.after{c c₁:Vw}{s p:Shared}{t:Sem Bool}{Q:Bool->Mem->Prop}(S:Step J c s c₁ p cZ)(h:yi J A E c₁ p t Q):wpAny J.ax A t (yg J c s Q) E p:=aV h (λ D D ⟨G,l,q⟩=>⟨G,S.trans l,q⟩) λ D D e=>e
theorem iV{v:V}{b:Bool}(h:(match bS Y v with|some vs=>if decide (vs.length<=1000000)then some (!vs.isEmpty)else none|none=>none)=some b):∃vs,bS Y v=some vs/\vs.length<=1000000/\b= !vs.isEmpty:=by
 cases e:bS Y v with
 |none=>rw[e]at h;exact nn h
 |some vs=>
  rw[e]at h
  obtain⟨M,u⟩:=bl h
  exact⟨vs,rfl,ae M,u.symm⟩
theorem Am(R:Rel J c s){v:V}{x:Value}{vs:ar}{Q:Bool->Mem->Prop}(r:aD c s.heap v x)(e:bS c.Y v=some vs)(I:vs.length<=1000000)(q:Q (!vs.isEmpty) c.Y):yi J A E c s (truthy x) Q:=by
 obtain⟨a,g,rfl,h,N⟩:=dk R r e
 refine wpAny_truthy_list h.isList (by refine cA.symm▸N.length▸?_;exact Int.lt_of_le_of_lt (gq.mpr I) (by decide)) ⟨c,Step.toks R _,?_⟩
 exact(show g.toArray.isEmpty=vs.isEmpty from N.ind (P:=λ vs g=>g.toArray.isEmpty=vs.isEmpty) rfl λ D D D D D D D=>rfl)▸q
theorem qr(R:Rel J c s){v:V}{x:Value}{b:Bool}{Q:Bool->Mem->Prop}(r:aD c s.heap v x)(h:b6 c.Y v=some b)(q:Q b c.Y):yi J A E c s (truthy x) Q:=by
 have lst:(∃vs,bS c.Y v=some vs/\vs.length<=1000000/\b= !vs.isEmpty)->yi J A E c s (truthy x) Q:=λ⟨vs,e,N,U⟩=>Am R r e N (U▸q)
 induction v using Mine.V.casesOn with
 |bool g=>obtain rfl:=aM h;exact r▸wpAny_truthy_bool ⟨c,.refl R,q⟩
 |int i=>obtain rfl:=aM h;obtain⟨t,rfl⟩:=r;exact P.truthy_int ⟨c,.refl R,q⟩
 |none=>obtain rfl:=aM h;exact r▸λ D D D=>⟨c,.refl R,q⟩
 |str y=>
  obtain⟨t,rfl⟩:=r
  have h:=bl h
  have M:=ae h.1
  rw[<-h.2]at q
  refine P.truthy_str (by rw[aU];omega) ⟨c,Step.toks R _,?_⟩
  rw[aU,show((y.length:Int)!=0)=decide (y≠[]) by induction y with
   |nil=>rfl
   |cons a l=>simp;omega]
  exact q
 |list vs=>exact lst (iV h)
 |ref i=>exact lst (iV h)
 |_=>exact nn h
noncomputable def allEq:List (Option Bool)->Option Bool
 |[]=>some true
 |some a::l=>(allEq l).map (a&&·)
 |none::_=>none
noncomputable def wc:V->Bool
 | .none=>true
 |_=>false
noncomputable def yj(f:Option (V->V->Option Bool))(d:Option Bool)(a b:ar):Option Bool:=if decide (a.length=b.length)then f.bind λ f=>allEq (List.zipWith f a b)else d
noncomputable def An(f:Option (V->V->Option Bool))(v w:V):Option Bool:=match v with
 | .none=>if wc w then some true else none
 | .bool a=>w.bool?.map (a==·)
 | .int a=>w.int?.map (a==·)
 | .str a=>w.Dn.map (a==·)
 | .list a=>w.KY.bind λ b=>yj f (some false) a b
 | .tuple a=>w.wa.bind λ b=>yj f none a b
 |_=>none
noncomputable def rq:Nat->V->V->Option Bool
 |0=>An none
 |n+1=>An (some (rq n))
inductive Dp(f:Option (V->V->Option Bool)):V->V->Bool->Prop
 |none:Dp f .none .none true
 |bool (a b:Bool):Dp f (.bool a) (.bool b) (a==b)
 |int (a b:Int):Dp f (.int a) (.int b) (a==b)
 |str (a b:aj):Dp f (.str a) (.str b) (a==b)
 |list (g:V->V->Option Bool) (a b:ar) (q:Bool) (hf:f=some g) (hl:a.length=b.length) (h:allEq (List.zipWith g a b)=some q):Dp f (.list a) (.list b) q
 |other (a b:ar) (hl:a.length≠b.length):Dp f (.list a) (.list b) false
 |tuple (g:V->V->Option Bool) (a b:ar) (q:Bool) (hf:f=some g) (hl:a.length=b.length) (h:allEq (List.zipWith g a b)=some q):Dp f (.tuple a) (.tuple b) q
theorem rV{f:Option (V->V->Option Bool)}{d:Option Bool}{a b:ar}{q:Bool}(h:yj f d a b=some q):(∃g,f=some g/\a.length=b.length/\allEq (List.zipWith g a b)=some q)\/(a.length≠b.length/\d=some q):=by
 unfold yj at h
 by_cases N:a.length=b.length
 ·rw[af N,aw rfl]at h
  obtain⟨g,e,h⟩:=bind_some h
  exact .inl ⟨g,e,N,h⟩
 ·rw[cg N,av kW]at h
  exact .inr ⟨N,h⟩
theorem gz{f:Option (V->V->Option Bool)}{v w:V}{q:Bool}(h:An f v w=some q):Dp f v w q:=by
 induction v using Mine.V.casesOn with
 |none=>
  induction w using Mine.V.casesOn with
  |none=>exact aM h▸.none
  |_=>exact nn h
 |bool a=>obtain⟨b,e,U⟩:=cB.mp h;refine(V.rU e).symm▸U▸?_;exact .bool a b
 |int a=>obtain⟨b,e,U⟩:=cB.mp h;refine(V.gh e).symm▸U▸?_;exact .int a b
 |str a=>obtain⟨b,e,U⟩:=cB.mp h;refine(V.n7 e).symm▸U▸?_;exact .str a b
 |list a=>
  obtain⟨b,e,h⟩:=bind_some h
  refine(V.E5 e).symm▸?_
  rcases rV h with⟨g,e,N,h⟩|⟨N,h⟩
  ·exact .list g a b q e N h
  ·exact aM h▸.other a b N
 |tuple a=>
  obtain⟨b,e,h⟩:=bind_some h
  refine(V.pC e).symm▸?_
  rcases rV h with⟨g,e,N,h⟩|⟨N,h⟩
  ·exact .tuple g a b q e N h
  ·exact nn h
 |_=>exact nn h
theorem uW{l:List (Option Bool)}{r:Bool}(h:allEq l=some r):(∀j,j<l.length->∃b,l[j]? =some (some b))/\r=(List.range l.length).all λ j=>(l[j]?.join).getD true:=by
 induction l generalizing r with
 |nil=>exact⟨λ j s=>absurd s (Nat.not_lt_zero j),(aM h).symm⟩
 |cons o l y=>
  induction o using Option.casesOn with
  |none=>exact nn h
  |some a=>
   obtain⟨N,h',rfl⟩:=cB.mp h
   have i:=y h'
   refine⟨λ j=>Nat.casesOn j (λ D=>⟨a,rfl⟩) λ j s=>i.1 j (Nat.lt_of_succ_lt_succ s),?_⟩
   rw[List.length_cons,List.range_succ_eq_map,List.all_cons,List.all_map,i.2]
   rfl
theorem uX{a b:aj}(h:strOf a=strOf b):a=b:=by
 have:=aE (λ z:Str=>z.cps.toList) h
 exact this
theorem pD(a b:aj):(strOf a==strOf b)=(a==b):=by
 by_cases h:a=b
 ·subst h;simp
 ·exact(kA.mpr h).symm▸(kA.mpr λ e=>h (uX e)).symm▸rfl
theorem ay.O3{vs:ar}{xs:aL}(r:ay c h vs xs):∀(j:Nat)(s:j<xs.length),∃v,vs[j]? =some v/\aD c h v xs[j]:=r.ind (P:=λ vs xs=>∀(j:Nat)(s:j<xs.length),∃v,vs[j]? =some v/\aD c h v xs[j]) (λ j s=>absurd s (Nat.not_lt_zero j)) λ v vs x xs r D y j=>Nat.casesOn j (λ D=>⟨v,rfl,r⟩) λ j s=>y j (Nat.lt_of_succ_lt_succ s)
noncomputable def E9(c:Vw)(s:Shared)(g:V->V->Option Bool):Prop:=∀{v w:V}{x:Value}{b:Bool},aD c s.heap v x->aD c s.heap w x->g v w=some b->b=true
theorem yk{g:V->V->Option Bool}(y:E9 c s g){vs ws:ar}{T:aL}{b:Bool}(r1:ay c s.heap vs T)(r2:ay c s.heap ws T)(h:allEq (List.zipWith g vs ws)=some b):b=true:=by
 induction vs generalizing ws T b with
 |nil=>exact(aM h).symm
 |cons v vs i=>induction T using List.casesOn with
  |nil=>exact r1.elim
  |cons x T=>induction ws using List.casesOn with
   |nil=>exact r2.elim
   |cons w ws=>
    rw[List.zipWith_cons_cons]at h
    cases e:g v w with
    |none=>rw[e]at h;exact nn h
    |some q=>
     rw[e]at h
     obtain⟨N,h',rfl⟩:=cB.mp h
     refine(y r1.1 r2.1 e).symm▸(i r1.2 r2.2 h').symm▸?_
     rfl
theorem SeqAt.Ml{T i:String}{a:Addr}{xs ys:aL}(M:SeqAt s.heap T a xs)(u:SeqAt s.heap i a ys):xs=ys:=by
 obtain⟨k,b⟩:=M
 obtain⟨E,l⟩:=u
 have e:=aE Obj.data (aM (b.symm.trans l))
 injection e with e
 exact aE Array.toList e
noncomputable def uY(c:Vw)(s:Shared)(T:String)(vs:ar)(x:Value):Prop:=∃a g,x= .ref a/\SeqAt s.heap T a g/\¬c.N a/\ay c s.heap vs g
theorem uY.one{T:String}{vs ws:ar}{x:Value}(M:uY c s T vs x)(u:uY c s T ws x):∃g,ay c s.heap vs g/\ay c s.heap ws g:=by
 obtain⟨a,g,rfl,I,D,q1⟩:=M
 obtain⟨o,y,e,h,D,q2⟩:=u
 rw[<-Value.ref.inj e]at h
 rw[<-I.Ml h]at q2
 exact⟨g,q1,q2⟩
theorem step_same{f:Option (V->V->Option Bool)}(y:∀g,f=some g->E9 c s g):∀{v w:V}{x:Value}{b:Bool},aD c s.heap v x->aD c s.heap w x->Dp f v w b->b=true:=by
 intro v w x b r1 r2 h
 induction h using Dp.casesOn with
 |none=>rfl
 |bool a b=>exact dD.mpr (Value.bool.inj (r1.symm.trans r2))
 |int a b=>obtain⟨t,rfl⟩:=r1;obtain⟨u,e⟩:=r2;injection e with e;exact dD.mpr e
 |str a b=>obtain⟨t,rfl⟩:=r1;obtain⟨u,e⟩:=r2;injection e with e;exact dD.mpr (uX e)
 |list g vs ws q A N h=>obtain⟨E,q1,q2⟩:=uY.one (T:="list") r1 r2;exact yk (y g A) q1 q2 h
 |other vs ws N=>obtain⟨E,q1,q2⟩:=uY.one (T:="list") r1 r2;exact absurd (q1.length.trans q2.length.symm) N
 |tuple g vs ws q A N h=>obtain⟨E,q1,q2⟩:=uY.one (T:="tuple") r1 r2;exact yk (y g A) q1 q2 h
theorem yl{n:Nat}:E9 c s (rq n):=by
 induction n with
 |zero=>exact λ r1 r2 h=>step_same (f:=none) (λ g e=>nomatch e) r1 r2 (gz h)
 |succ n y=>exact λ r1 r2 h=>step_same (f:=some (rq n)) (λ g e=>aM e▸y) r1 r2 (gz h)
noncomputable def Oz(c:Vw)(s:Shared)(A:Around)(g:V->V->Option Bool):Prop:=∀{v w:V}{x y:Value}{b:Bool},aD c s.heap v x->aD c s.heap w y->g v w=some b->PySem.SeqAt.EqAt A s x y b
structure O4(A:Around)(s:Shared)(o:Nat->Bool)(aK ij:aL)(b:Bool):Prop where
 z1:aK.length=ij.length
 z2:b=(List.range aK.toArray.size).all o
 z3:∀j(h1:j<aK.toArray.size)(h2:j<ij.toArray.size),PySem.SeqAt.EqAt A.in1 s aK.toArray[j] ij.toArray[j] (o j)
theorem lA{g:V->V->Option Bool}(y:Oz c s A.in1 g){vs ws:ar}{xs ys:aL}{b:Bool}(r1:ay c s.heap vs xs)(r2:ay c s.heap ws ys)(N:vs.length=ws.length)(h:allEq (List.zipWith g vs ws)=some b):O4 A s (λ j=>((List.zipWith g vs ws)[j]?.join).getD true) xs ys b:=by
 have k:=uW h
 have I:(List.zipWith g vs ws).length=xs.length:=by rw[List.length_zipWith,<-N,Nat.min_self];exact r1.length
 refine⟨r1.length.symm.trans (N.trans r2.length),?_,λ j M u=> ?_⟩
 ·refine cA.symm▸I▸?_;exact k.2
 ·rw[cA]at M u
  obtain⟨v,n,q1⟩:=r1.O3 j M
  obtain⟨w,m,q2⟩:=r2.O3 j u
  have H:(List.zipWith g vs ws)[j]? =some (g v w):=by exact(List.getElem?_zipWith).symm▸n.symm▸m.symm▸rfl
  obtain⟨T,r⟩:=k.1 j (I▸M)
  have U:=aM (H.symm.trans r)
  refine H.symm▸U.symm▸?_
  exact y q1 q2 U
theorem Ao{vs ws:ar}{g y:aL}(N:vs.length≠ws.length)(r:ay c s.heap vs g)(a:ay c s.heap ws y):(g.toArray.size !=y.toArray.size)=true:=bne_iff_ne.mpr λ q=>N (r.length.trans (q.trans a.length.symm))
theorem lT{g y:aL}(k:g.length=y.length):min g.toArray.size y.toArray.size=g.toArray.size/\(g.toArray.size==y.toArray.size)=true:=⟨Nat.min_eq_left (bN k),dD.mpr k⟩
open PySem.SeqAt in
theorem step_at{f:Option (V->V->Option Bool)}(T:∀g,f=some g->Oz c s A.in1 g)(l:A.units<cLine){v w:V}{x y:Value}{b:Bool}(r1:aD c s.heap v x)(r2:aD c s.heap w y)(h:Dp f v w b)(I:x=y->b=true):EqAt A s x y b:=by
 induction h using Dp.casesOn with
 |none=>refine(show x= .none from r1).symm▸(show y= .none from r2).symm▸?_;exact EqAt.same _
 |bool a b=>refine(show x= .bool a from r1).symm▸(show y= .bool b from r2).symm▸?_;exact EqAt.bool_bool _ _
 |int a b=>obtain⟨t,rfl⟩:=r1;obtain⟨u,rfl⟩:=r2;exact EqAt.int_int _ _ _ _
 |str a b=>obtain⟨t,rfl⟩:=r1;obtain⟨u,rfl⟩:=r2;rw[<-pD];exact EqAt.str_str _ _ _ _
 |list g vs ws q d N h=>
  obtain⟨a,E,rfl,q1,D,r⟩:=r1
  obtain⟨o,p,rfl,q2,D,k⟩:=r2
  by_cases e:a=o
  ·refine(I (e▸rfl)).symm▸e.symm▸?_;exact EqAt.same _
  ·have z:=lA (T g d) r k N h
   exact z.z2▸EqAt.of_refs e (RcAt.lists q1.isList q2.isList z.z1 l z.z3)
 |other vs ws N=>
  obtain⟨a,E,rfl,q1,D,r⟩:=r1
  obtain⟨o,p,rfl,q2,D,k⟩:=r2
  by_cases e:a=o
  ·exact nf (I (e▸rfl))
  ·exact EqAt.of_refs e (RcAt.lists_lengths q1.isList q2.isList (Ao N r k) l)
 |tuple g vs ws q d N h=>
  obtain⟨a,E,rfl,q1,D,r⟩:=r1
  obtain⟨o,p,rfl,q2,D,k⟩:=r2
  by_cases e:a=o
  ·refine(I (e▸rfl)).symm▸e.symm▸?_;exact EqAt.same _
  ·have z:=lA (T g d) r k N h
   have:=RcAt.tuples q1.dz q2.dz l z.z3
   rw[(lT z.z1).1,(lT z.z1).2,Bool.and_true,<-z.z2]at this
   exact EqAt.of_refs e this
theorem Ap{n:Nat}(r:A.units+n<cLine):Oz c s A (rq n):=by
 induction n generalizing A with
 |zero=>exact λ r1 r2 h=>step_at (f:=none) (λ g e=>nomatch e) r r1 r2 (gz h) λ e=>yl (n:=0) r1 (e▸r2) h
 |succ n y=>exact λ r1 r2 h=>step_at (f:=some (rq n)) (λ g e=>aM e▸y (A:=A.in1) (by refine(?_:A.units+1+n<cLine);rw[gp,ff 1 n];exact r)) (b9 (au _ _) r) r1 r2 (gz h) λ e=>yl (n:=n+1) r1 (e▸r2) h
section
variable{prog:Program}{w:World}
theorem Dq{f:Nat->Option Bool×Unit->Sem (ForInStep (Option Bool×Unit))}(e:Nat->Bool)(m i:Nat){Q:Option Bool×Unit->Shared->Prop}(step:∀j,i<=j->j<i+m->∀p:ForInStep (Option Bool×Unit)->Shared->Prop,p (if e j=true then .yield (none,())else .done (some false,())) s->wpAny (model prog w) A (f j (none,())) p E s)(q:Q (if(List.range' i m).all e=true then(none,())else(some false,())) s):wpAny (model prog w) A (forIn (List.range' i m) (none,()) f) Q E s:=by
 induction m generalizing i with
 |zero=>exact aA q
 |succ m y=>
  rw[List.range'_succ,mE]
  refine ag (step i (ai _) (uJ (Nat.succ_pos m)) _ ?_)
  rw[List.range'_succ,List.all_cons]at q
  cases he:e i with
  |true=>
   rw[he,Bool.true_and]at q
   exact aw rfl▸y (i+1) (λ j M u=>step j (Nat.le_of_succ_le M) (by rw[gp,ff 1 m]at u;exact u)) q
  |false=>
   rw[he,Bool.false_and,av kW]at q
   exact av kW▸aA q
theorem uc{id:String}{a b:Addr}{H t:Obj}{es fs:Array DictEntry}{ep n:Nat}{Q:Bool->Shared->Prop}(v:(a==sysModules)=false)(l:(b==sysModules)=false)(z:s.heap.get? a=some H)(p:H.data= .dict es ep)(U:s.heap.get? b=some t)(u:t.data= .dict fs n)(o:∀e∈es,∃k,Value.isInt k e.key=true/\e.hash=hashInt k)(M:KeysOf (intKind prog w) fs)(hsz:es.size=fs.size)(e:Nat->Bool)(he:∀j(x:j<es.size) k,Value.isInt k es[j].key=true->match fs.findIdx? λ f=>Value.isInt k f.key with
   |none=>e j=false
   |some i=>∃f,fs[i]? =some f/\PySem.SeqAt.EqAt A s es[j].val f.val (e j))
  (q:Q ((List.range' 0 es.size).all e) s):wpAny (model prog w) A (Builtin.Dict.samePairs id a b) Q E s:=by
 unfold Builtin.Dict.samePairs Builtin.Dict.showsAll
 refine v.symm▸l.symm▸?_
 refine ag (aA (ag (aA ?_)))
 refine ag (wpAny_dictEntries z p (ag (wpAny_dictEntries U u ?_)))
 rw[av (by rw[hsz];simp)]
 refine ag (wpAny_dictEpoch z p ?_)
 rw[Std.Legacy.Range.forIn_eq_forIn_range',show Std.Legacy.Range.size _=es.size by simp[Std.Legacy.Range.size]]
 refine ag (Dq e es.size 0 (λ j D x G I=> ?_) ?_)
 ·have x:j<es.size:=Nat.lt_of_lt_of_eq x (gM _)
  refine ag (wpAny_dictEntries z p ?_)
  refine(nT x).symm▸?_
  obtain⟨k,L,d⟩:=o es[j] (Array.getElem_mem x)
  have h:=he j x k L
  refine ag (bX ?_)
  refine d.symm▸?_
  refine ag (wpAny_dictFind_of (knd:=intKind prog w) L U u M ?_)
  cases r:fs.findIdx? λ e=>(intKind prog w).is k e.key with
  |none=>
   rw[show(fs.findIdx? λ f=>Value.isInt k f.key)=none from r]at h
   rw[show e j=false from h]at I
   exact aA (aA I)
  |some i=>
   rw[show(fs.findIdx? λ f=>Value.isInt k f.key)=some i from r]at h
   obtain⟨f,y,c⟩:=h
   refine ag (wpAny_dictEntries U u ?_)
   refine y.symm▸?_
   refine bX (c _ _ _ _ ?_)
   cases C:e j with
   |false=>rw[C]at I;exact aA I
   |true=>
    rw[C]at I
    refine ag (wpAny_dictEpoch z p ?_)
    rw[av (by simp)]
    exact aA I
 ·cases m:(List.range' 0 es.size).all e with
  |true=>rw[m]at q;exact aA q
  |false=>rw[m]at q;exact aA q
end
theorem Mm:isSubtype (.type "dict") (.type "dict")=pure true:=by rw[eX];kernel_rfl
theorem ud(a b:Addr):Meets (Builtin.«dict.__eq__» ⟨[.ref a,.ref b],[]⟩) (λ A R s=>s.TypeIs (.ref a) "dict"/\s.TypeIs (.ref b) "dict"/\∃q,(∀(prog:Program)(w:World)(E:dR)(Q:Bool->Shared->Prop)(id:String),Q q s->wpAny (model prog w) A.in1 (Builtin.Dict.samePairs id a b) Q E s)/\R (.ok (.ret (.bool q))) s):= .of_wp λ prog w A R s h=>by
  obtain⟨hp,g,d,tk,os⟩:=s
  obtain⟨u,j,q,L,x⟩:=h
  have r:=Mm
  repeat(first|with_reducible refine L _ _ _ _ _ ?_|wp_step)
  exact⟨_,rfl,by induction q<;>exact x⟩
theorem Aq{a b:Addr}{q:Bool}(u:s.TypeIs (.ref a) "dict")(C:s.TypeIs (.ref b) "dict")(r:A.units<cLine)(L:∀(prog:Program)(w:World)(E:dR)(Q:Bool->Shared->Prop)(id:String),Q q s->wpAny (model prog w) A.in1 (Builtin.Dict.samePairs id a b) Q E s):PySem.SeqAt.RcAt A s (.ref a) (.ref b) q:=λ prog w E Q h=>richCompare_meets_room (op:= .Eq) u C F.slot_dict_eq F.entry_dict_eq (F.args_dict_eq_2 _ _) (ud a b) ⟨u,C,q,L,⟨nofun,h⟩⟩ r
theorem wd{k E:Int}{x:Value}{es:List (Int×Value)}:valueAt ((E,x)::es) k=if E=k then some x else valueAt es k:=by
 delta valueAt
 rw[List.find?_cons]
 by_cases e:E=k
 ·refine(aw e).symm▸(af e).symm▸?_;rfl
 ·exact(av e).symm▸(cg e).symm▸rfl
theorem cT.lookup{k:Int}{bC:List (Int×V)}{U:List (Int×Value)}(r:cT c h bC U):(∀v,bC.lookup k=some v->∃x,valueAt U k=some x/\aD c h v x)/\(bC.lookup k=none->valueAt U k=none):=r.ind (P:=λ bC U=>(∀v,bC.lookup k=some v->∃x,valueAt U k=some x/\aD c h v x)/\(bC.lookup k=none->valueAt U k=none)) ⟨λ v e=>nn e,λ D=>rfl⟩ λ E v r x es q1 q2 y=>by
  rw[eF,wd]
  by_cases e:k=E
  ·refine(aw e.symm).symm▸(dD.mpr e).symm▸?_
   exact⟨λ w m=>⟨x,rfl,aM m▸q1⟩,λ m=>nomatch m⟩
  ·refine(av (Ne.symm e)).symm▸(kA.mpr e).symm▸?_
   exact y
theorem cT.vals{bC:List (Int×V)}{U:List (Int×Value)}(r:cT c h bC U):bC.length=U.length/\∀(j:Nat) k v,bC[j]? =some (k,v)->∃x,U[j]? =some (k,x)/\aD c h v x:=r.ind (P:=λ bC U=>bC.length=U.length/\∀(j:Nat) k v,bC[j]? =some (k,v)->∃x,U[j]? =some (k,x)/\aD c h v x) ⟨rfl,λ j k v e=>nn e⟩ λ E a r x es q1 q2 y=>⟨aE (·+1) y.1,λ j k₂ z e=>by
  induction j using Nat.casesOn with
  |zero=>
   have e:=aM e
   refine(show k₂=E from(aE Prod.fst e).symm).symm▸(show z=a from(aE Prod.snd e).symm).symm▸?_
   exact⟨x,rfl,q1⟩
  |succ j=>exact y.2 j k₂ z e⟩
theorem Dr{prog:Program}{w:World}{es:List DictEntry}{bC:List (Int×Value)}(p:Pairs (intKind prog w) es bC){j:Nat}{k:Int}{x:Value}(h:bC[j]? =some (k,x)):∃e,es[j]? =some e/\Value.isInt k e.key=true/\e.val=x:=by
 induction p generalizing j with
 |nil=>exact nn h
 |cons M u _ y=>
  induction j using Nat.casesOn with
  |zero=>
   have h:=aM h
   rw[h]at M u
   exact⟨_,rfl,M,u⟩
  |succ j=>exact y h
noncomputable def mY(g:V->V->Option Bool)(xs ys:List (Int×V)):Option Bool:=if decide (xs.length=ys.length)then allEq (xs.map λ p=>match ys.lookup p.1 with
 |some w=>g p.2 w
 |none=>some false)else none
theorem I1{g:V->V->Option Bool}(R:Rel J c s)(hg:Oz c s A.in1 g){i j:Nat}{xs ys:List (Int×V)}{ep M:Nat}{b:Bool}(hi:i<c.Y.n)(N:j<c.Y.n)(I:c.Y.f i= .dict xs ep)(L:c.Y.f j= .dict ys M)(Ar:sysModules<J.h₀.objs.size)(hu:A.units<cLine)(h:mY g xs ys=some b):PySem.SeqAt.RcAt A s (.ref (c.ρ i)) (.ref (c.ρ j)) b:=by
 unfold mY at h
 cases G:decide (xs.length=ys.length)with
 |false=>rw[G]at h;exact nn h
 |true=>
 rw[G,aw rfl]at h
 have hl:=ae G
 have k:=uW h
 have C:=R.obj i hi
 have z:=R.obj j N
 rw[I]at C
 rw[L]at z
 obtain⟨f1,kx,T,r1⟩:=C
 obtain⟨f2,ky,H,r2⟩:=z
 have low:∀{a:Nat},a<c.Y.n->(∀e:c.Y.f a= .dead,False)->c.ρ a∈c.fp a->(c.ρ a==sysModules)=false:=λ ha hd hm=>kA.mpr λ q=>aC (R.high _ (Rel.di ⟨ha,hd⟩ hm)).1 (q▸Ar)
 have na:=low hi (λ e=>nomatch I.symm.trans e) (by exact f1▸.head _)
 have nb:=low N (λ e=>nomatch L.symm.trans e) (by exact f2▸.head _)
 have mb:=H.dictOf.mapOf
 refine Aq T.dictOf.typeIs H.dictOf.typeIs hu λ prog w E Q id q=> ?_
 obtain⟨o,es,ho,D,hd,hk,hp,hn⟩:=T
 obtain⟨o2,fs,Vf,D,hd2,IT,WR,Ds⟩:=H
 obtain⟨o3,WS,WT,WU,D,Vg,D,hf⟩:=mb
 obtain rfl:o2=o3:=aM (Vf.symm.trans WU)
 obtain⟨rfl,D⟩:fs=WS/\M=WT:=by rw[hd2]at Vg;injection Vg with a b;exact⟨a,b⟩
 have l1:=r1.vals
 have r:es.size=xs.length:=by exact Array.length_toList▸hp.length.symm▸l1.1.symm▸rfl
 have ly:fs.size=ys.length:=by exact Array.length_toList▸WR.length.symm▸r2.vals.1.symm▸rfl
 refine uc na nb ho hd Vf hd2 hk IT (r.trans (hl.trans ly.symm)) (λ j=>((xs.map λ p=>match ys.lookup p.1 with
  |some w=>g p.2 w
  |none=>some false)[j]?.join).getD true) (λ m hm kk Vh=> ?_) ?_
 ·have l:m<xs.length:=Nat.lt_of_lt_of_eq hm r
  obtain⟨x,hx,rx⟩:=l1.2 m xs[m].1 xs[m].2 (jr l)
  obtain⟨e,he,RL,rfl⟩:=Dr hp hx
  have Ss:es[m]=e:=by
   have:es.toList[m]? =some es[m]:=by exact(Array.getElem?_toList).symm▸(nT hm).symm▸rfl
   exact aM (this.symm.trans he)
  rw[Ss]at Vh⊢
  obtain rfl:kk=xs[m].1:=Value.isInt_inj _ _ _ Vh RL
  have t:=hf xs[m].1
  rw[findBy_of_findIdx?]at t
  have lk:=r2.lookup (k:=xs[m].1)
  have em:(xs.map λ p=>match ys.lookup p.1 with
   |some w=>g p.2 w
   |none=>some false)[m]? =some (match ys.lookup xs[m].1 with
   |some w=>g xs[m].2 w
   |none=>some false):=by refine(gN).symm▸(jr l).symm▸?_;rfl
  obtain⟨bb,O8⟩:=k.1 m (by rw[aX];exact l)
  have d:=aM (em.symm.trans O8)
  refine em.symm▸?_
  cases u:fs.findIdx? λ f=>Value.isInt xs[m].1 f.key with
  |none=>
   rw[show(fs.findIdx? λ e=>(intKind J.prog J.w).is xs[m].1 e.key)=none from u]at t
   cases U:ys.lookup xs[m].1 with
   |none=>rfl
   |some y=>obtain⟨x',v,D⟩:=lk.1 y U;exact nn (t.trans v)
  |some n=>
   rw[show(fs.findIdx? λ e=>(intKind J.prog J.w).is xs[m].1 e.key)=some n from u]at t
   have t:fs[n]?.map (·.val)=valueAt ky xs[m].1:=t
   cases U:ys.lookup xs[m].1 with
   |none=>
    have fJ:n<fs.size:=(Array.findIdx?_eq_some_iff_getElem.mp u).1
    rw[lk.2 U,nT fJ]at t
    exact nomatch t
   |some y=>
    obtain⟨x',v,WV⟩:=lk.1 y U
    rw[v]at t
    obtain⟨f,WW,EY⟩:=cB.mp t
    rw[U]at d
    refine⟨f,WW,?_⟩
    refine EY.symm▸?_
    refine(?_:PySem.SeqAt.EqAt _ s _ _ ((g xs[m].2 y).getD true))
    refine(show g xs[m].2 y=some bb from d).symm▸?_
    exact hg rx WV d
 ·rw[<-List.range_eq_range',r,<-aX (as:=xs) (f:=λ p=>match ys.lookup p.1 with
   |some w=>g p.2 w
   |none=>some false),<-k.2]
  exact q
open PySem.Builtin.Str in
theorem I2(x:aj)(k:Nat):(!(occurrences (strOf x) (strOf [k]) 0 (strOf x).length 1).isEmpty)=decide (k∈x):=by
 rcases StrLaws.occ_head (strOf x) (strOf [k]) 1 (ai _)with⟨e,h⟩|⟨i,r,e,h,D⟩
 ·refine e.symm▸?_
  symm
  simp only[List.isEmpty_nil,Bool.not_true,decide_eq_false_iff_not]
  intro hm
  obtain⟨i,hi,rfl⟩:=List.getElem_of_mem hm
  refine h i ⟨by rw[aU,aU];simp;assumption,?_⟩
  rw[StrLaws.subAt_eq]
  have:List.take 1 (List.drop i x)=[x[i]]:=by exact(List.drop_eq_getElem_cons hi).symm▸List.take_succ_cons.symm▸List.take_zero.symm▸rfl
  exact dD.mpr ‹_›
 ·refine e.symm▸?_
  symm
  simp only[List.isEmpty_cons,Bool.not_false,decide_eq_true_eq]
  obtain⟨M,u⟩:=h
  rw[aU,aU]at M
  rw[StrLaws.subAt_eq]at u
  simp[strOf,Str.length]at u M
  have hi:i<x.length:=by assumption
  rw[List.drop_eq_getElem_cons hi,List.take_succ_cons,List.take_zero]at u
  injection u with u _
  exact u▸List.getElem_mem hi
noncomputable def wg:V->Option Bool
 | .none=>some true
 | .aF=>none
 | .bi _=>none
 | .bm _=>none
 | .it _ _=>none
 | .kE _=>none
 |_=>some false
noncomputable def Su(t:Ty):V->Option Bool
 | .ty s=>some (decide (s=t))
 | .none=>some false
 |_=>none
noncomputable def Sv(v w:V):Option Bool:=match w with
 | .none=>wg v
 | .ty t=>Su t v
 |_=>none
noncomputable def Vi(v w:V):Option Bool:=match v with
 | .str a=>w.Dn.map (a==·)
 | .int a=>w.int?.map (a==·)
 | .bool a=>w.bool?.map (a==·)
 |_=>none
noncomputable def jQ(v:V):ar->Option Bool
 |[]=>some false
 |w::ws=>(Vi w v).bind λ a=>(jQ v ws).map (a||·)
noncomputable def iW:Value->Value->Bool
 | .str a _,.str b _=>a==b
 | .int a _,.int b _=>a==b
 | .bool a,.bool b=>a==b
 |_,_=>false
noncomputable def Vj:aj->Option Nat
 |[k]=>some k
 |_=>none
theorem Mn{l:aj}{k:Nat}(h:Vj l=some k):l=[k]:=by
 match l,h with
 |[k],h=>obtain rfl:=aM h;rfl
noncomputable def OB(o:O)(k:Int):Option Bool:=match o with
 | .dict bC _=>some (bC.lookup k).isSome
 | .set xs=>some (decide (k∈xs))
 |_=>none
noncomputable def Sx(Y:Mem)(v w:V):Option Bool:=match w with
 | .str l=>(v.Dn.bind Vj).map λ k=>decide (k∈l)
 | .tuple vs=>jQ v vs
 | .list vs=>jQ v vs
 | .ref i=>v.int?.bind (OB (Y.f i))
 |_=>none
noncomputable def Fb(a b:V)(f:Int->Int->Bool):Option Bool:=a.int?.bind λ i=>b.int?.map (f i)
theorem lU{a b:V}{f:Int->Int->Bool}{q:Bool}(h:Fb a b f=some q):∃i j,a= .int i/\b= .int j/\f i j=q:=by
 obtain⟨i,e,h⟩:=bind_some h
 obtain⟨j,l,h⟩:=cB.mp h
 exact⟨i,j,V.gh e,V.gh l,h⟩
noncomputable def RM(Y:Mem)(v w:V):Option Bool:=match v with
 | .ref i=>match w with
  | .ref j=>match Y.f i with
   | .dict xs _=>match Y.f j with
    | .dict ys _=>if decide (i=j)then none else mY (rq 2) xs ys
    |_=>none
   |_=>none
  |_=>none
 |v=>rq 2 v w
noncomputable def eqT(Y:Mem)(v w:V):Option Bool:=v.wa.bind λ a=>w.wa.bind λ b=>if decide (a.length=b.length)then allEq (List.zipWith (RM Y) a b)else none
noncomputable def Mo(Y:Mem)(v w:V):Option Bool:=match rq 6 v w with
 |some q=>some q
 |none=>eqT Y v w
theorem Mp{v w:V}{q:Bool}(h:rq 6 v w=some q):Mo Y v w=some q:=by delta Mo;exact h.symm▸rfl
noncomputable def mq(Y:Mem)(op:CmpOp)(a b:V):Option Bool:=match op with
 | .Eq=>Mo Y a b
 | .NotEq=>(Mo Y a b).map (!·)
 | .Lt=>Fb a b λ i j=>decide (i<j)
 | .LtE=>Fb a b λ i j=>decide (i<=j)
 | .Gt=>Fb a b λ i j=>decide (j<i)
 | .GtE=>Fb a b λ i j=>decide (j<=i)
 | .Is=>Sv a b
 | .IsNot=>(Sv a b).map (!·)
 | .In=>Sx Y a b
 | .NotIn=>(Sx Y a b).map (!·)
open PySem.SeqAt in
theorem Mq{n:Nat}{v w:V}{x y:Value}{b:Bool}(d:A.units+n+1<cLine)(r1:aD c s.heap v x)(r2:aD c s.heap w y)(h:rq (n+1) v w=some b):RcAt A s x y b/\RcNeAt A s x y (!b):=by
 have U:A.units<cLine:=b9 (au A.units (n+1)) d
 have T:∀g,some (rq n)=some g->Oz c s A.in1 g:=λ g e=>aM e▸Ap (by refine(?_:A.units+1+n<cLine);rw[iQ];exact d)
 have h':=gz (f:=some (rq n)) h
 clear h
 rename _=>h
 generalize some (rq n)=f at T h
 induction h using Dp.casesOn with
 |none=>refine(show x= .none from r1).symm▸(show y= .none from r2).symm▸?_;exact⟨RcAt.none_none,RcNeAt.none_none⟩
 |bool a b=>refine(show x= .bool a from r1).symm▸(show y= .bool b from r2).symm▸?_;exact⟨RcAt.bool_bool _ _,RcNeAt.bool_bool _ _⟩
 |int a b=>obtain⟨t,rfl⟩:=r1;obtain⟨u,rfl⟩:=r2;exact⟨RcAt.int_int _ _ _ _,RcNeAt.int_int _ _ _ _⟩
 |str a b=>obtain⟨t,rfl⟩:=r1;obtain⟨u,rfl⟩:=r2;rw[<-pD];exact⟨RcAt.str_str _ _ _ _,RcNeAt.str_str _ _ _ _⟩
 |list g vs ws q l N h=>
  obtain⟨a,E,rfl,q1,D,r⟩:=r1
  obtain⟨k,p,rfl,q2,D,o⟩:=r2
  have z:=lA (T g l) r o N h
  exact z.z2▸⟨RcAt.lists q1.isList q2.isList z.z1 U z.z3,RcNeAt.lists q1.isList q2.isList z.z1 U z.z3⟩
 |other vs ws N=>
  obtain⟨a,E,rfl,q1,D,r⟩:=r1
  obtain⟨k,p,rfl,q2,D,o⟩:=r2
  exact⟨RcAt.lists_lengths q1.isList q2.isList (Ao N r o) U,RcNeAt.lists_lengths q1.isList q2.isList (Ao N r o) U⟩
 |tuple g vs ws q l N h=>
  obtain⟨a,E,rfl,q1,D,r⟩:=r1
  obtain⟨k,p,rfl,q2,D,o⟩:=r2
  have z:=lA (T g l) r o N h
  have M:=RcAt.tuples q1.dz q2.dz U z.z3
  have H:=RcNeAt.tuples q1.dz q2.dz U z.z3
  rw[(lT z.z1).1,(lT z.z1).2,Bool.and_true,<-z.z2]at M H
  exact⟨M,H⟩
open PySem.SeqAt in
theorem Mr(R:Rel J c s)(L:sysModules<J.h₀.objs.size)(r:A.units+4<cLine):Oz c s A (RM c.Y):=by
 intro v w x y b r1 r2 h
 have a:rq 2 v w=some b->EqAt A s x y b:=Ap (b9 (gL (by decide) _) r) r1 r2
 induction v using V.casesOn with
 |ref i=>
  induction w using V.casesOn with
  |ref j=>
   have h:(match c.Y.f i with
    | .dict xs _=>match c.Y.f j with
     | .dict ys _=>if decide (i=j)=true then none else mY (rq 2) xs ys
     |_=>none
    |_=>none)=some b:=h
   refine r1.2.symm▸r2.2.symm▸?_
   generalize M:c.Y.f i=o at h
   induction o using O.casesOn with
   |dict xs ep=>
    generalize m:c.Y.f j=U at h
    induction U using O.casesOn with
    |dict ys f=>
     by_cases ne:i=j
     ·have h:(if decide (i=j)=true then none else mY (rq 2) xs ys)=some b:=h
      rw[af ne,aw rfl]at h
      exact nn h
     ·have h:(if decide (i=j)=true then none else mY (rq 2) xs ys)=some b:=h
      rw[cg ne,av kW]at h
      have H:=R.obj i r1.1
      have C:=R.obj j r2.1
      rw[M]at H
      rw[m]at C
      have G:c.live i:=⟨r1.1,λ e=>nomatch M.symm.trans e⟩
      have N:c.live j:=⟨r2.1,λ e=>nomatch m.symm.trans e⟩
      refine EqAt.of_refs (λ e=>R.apart i j G N ne (c.ρ i) (by exact H.1▸.head _) (by refine e.symm▸C.1.symm▸?_;exact .head _)) (I1 R (Ap ?_) r1.1 r2.1 M m L (b9 (au ..) r) h)
      refine(?_:A.units+1+2<cLine)
      exact b9 (gL (by decide:1+2<=4) A.units) r
    |_=>exact nn h
   |_=>exact nn h
  |_=>exact nn h
 |_=>exact a h
open PySem.SeqAt in
theorem Ms(R:Rel J c s)(L:sysModules<J.h₀.objs.size)(r:A.units+5<cLine){v w:V}{x y:Value}{b:Bool}(r1:aD c s.heap v x)(r2:aD c s.heap w y)(h:eqT c.Y v w=some b):RcAt A s x y b/\RcNeAt A s x y (!b):=by
 obtain⟨as,k,h⟩:=bind_some h
 obtain⟨bs,l,h⟩:=bind_some h
 rw[V.pC k]at r1
 rw[V.pC l]at r2
 have e:A.units<cLine:=b9 (au ..) r
 by_cases N:as.length=bs.length
 ·rw[af N,aw rfl]at h
  obtain⟨a,g,rfl,q1,D,d⟩:=r1
  obtain⟨U,T,rfl,q2,D,o⟩:=r2
  have z:=lA (A:=A) (Mr R L (by refine(?_:A.units+1+4<cLine);rw[gp];exact r)) d o N h
  have M:=RcAt.tuples q1.dz q2.dz e z.z3
  have u:=RcNeAt.tuples q1.dz q2.dz e z.z3
  rw[(lT z.z1).1,(lT z.z1).2,Bool.and_true,<-z.z2]at M u
  exact⟨M,u⟩
 ·rw[cg N,av kW]at h;exact nn h
open PySem.SeqAt in
theorem Fc(R:Rel J c s)(L:sysModules<J.h₀.objs.size)(r:A.units+10<cLine){v w:V}{x y:Value}{b:Bool}(r1:aD c s.heap v x)(r2:aD c s.heap w y)(h:Mo c.Y v w=some b):RcAt A s x y b/\RcNeAt A s x y (!b):=by
 unfold Mo at h
 cases e:rq 6 v w with
 |some q=>rw[e]at h;exact aM h▸Mq (n:=5) (b9 (gL (by decide:5+1<=10) A.units) r) r1 r2 e
 |none=>rw[e]at h;exact Ms R L (b9 (gL (by decide) _) r) r1 r2 h
theorem n8(R:Rel J c s){v:V}{x:Value}{b:Bool}(r:aD c s.heap v x)(h:wg v=some b):PySem.plainIs x .none=true/\(x== .none)=b:=by
 induction v using Mine.V.casesOn with
 |none=>obtain rfl:=aM h;refine r.symm▸?_;exact⟨rfl,rfl⟩
 |bool _=>obtain rfl:=aM h;exact r▸⟨rfl,rfl⟩
 |int _=>obtain rfl:=aM h;obtain⟨t,rfl⟩:=r;exact⟨rfl,rfl⟩
 |str _=>obtain rfl:=aM h;obtain⟨t,rfl⟩:=r;exact⟨rfl,rfl⟩
 |bytes _=>obtain rfl:=aM h;obtain⟨D,t,rfl⟩:=r;exact⟨rfl,rfl⟩
 |ref _=>obtain rfl:=aM h;obtain⟨D,rfl⟩:=r;exact⟨rfl,rfl⟩
 |list _=>obtain rfl:=aM h;obtain⟨a,g,rfl,D⟩:=r;exact⟨rfl,rfl⟩
 |tuple _=>obtain rfl:=aM h;obtain⟨a,g,rfl,D⟩:=r;exact⟨rfl,rfl⟩
 |glob _=>obtain rfl:=aM h;exact r▸⟨rfl,rfl⟩
 |ty _=>obtain rfl:=aM h;exact r▸⟨rfl,rfl⟩
 |bi _=>exact nn h
 |bm _=>exact nn h
 |it _=>exact nn h
 |kE _=>exact nn h
 |aF=>exact nn h
noncomputable def tys:List Ty:=[.int,.bytes,.bytearray,.str,.bool,.list,.tuple,.set,.type,.range,.zip,.enumerate,.float,.complex,.dict,.frozenset,.none,.ll,.ya]
theorem Ty.mem(a:Ty):a∈tys:=by induction a<;>decide
theorem I4:(tys.all λ a=>tys.all λ b=> !decide (a.name=b.name)||decide (a=b))=true:=by decide+kernel
theorem Ty.Fd{a b:Ty}(h:a.name=b.name):a=b:=by
 have q:=fg.mp (fg.mp I4 a a.mem) b b.mem
 rw[af h]at q
 exact ae q
theorem ym(R:Rel J c s){v w:V}{x y:Value}{b:Bool}(r1:aD c s.heap v x)(r2:aD c s.heap w y)(h:Sv v w=some b):PySem.plainIs x y=true/\(x==y)=b:=by
 induction w using Mine.V.casesOn with
 |none=>exact r2▸n8 R r1 h
 |ty t=>
  refine r2.symm▸?_
  induction v using Mine.V.casesOn with
  |none=>obtain rfl:=aM h;exact r1▸⟨rfl,rfl⟩
  |ty n=>
   obtain rfl:=aM h
   refine r1.symm▸?_
   refine⟨rfl,?_⟩
   by_cases e:n=t
   ·subst e;rw[af rfl];exact hZ _
   ·exact cg e▸kA.mpr λ q=>e (Ty.Fd (Value.type.inj q))
  |_=>first|exact nf h|exact nn h|subst h
 |_=>first|exact nf h|exact nn h|subst h
open PySem.SeqAt in
theorem Dt{v w:V}{x y:Value}{b:Bool}(r1:aD c s.heap v x)(r2:aD c s.heap w y)(h:Vi v w=some b):EqAt A s x y (iW x y)/\iW x y=b:=by
 induction v using Mine.V.casesOn with
 |bool a=>obtain⟨i,e,rfl⟩:=cB.mp h;cases V.rU e;refine r1.symm▸r2.symm▸?_;exact⟨EqAt.bool_bool _ _,rfl⟩
 |int a=>obtain⟨i,e,rfl⟩:=cB.mp h;cases V.gh e;obtain⟨t,rfl⟩:=r1;obtain⟨u,rfl⟩:=r2;exact⟨EqAt.int_int _ _ _ _,rfl⟩
 |str a=>obtain⟨i,e,rfl⟩:=cB.mp h;cases V.n7 e;obtain⟨t,rfl⟩:=r1;obtain⟨u,rfl⟩:=r2;exact⟨EqAt.str_str _ _ _ _,pD _ _⟩
 |_=>first|exact nf h|exact nn h|subst h
open PySem.SeqAt in
theorem ue{v:V}{x:Value}(r:aD c s.heap v x){vs:ar}{g:aL}{b:Bool}(m:ay c s.heap vs g)(h:jQ v vs=some b):(∀y,y∈g.toArray->EqAt A.in1 s y x (iW y x))/\g.toArray.any (iW · x)=b:=by
 suffices∀{b},jQ v vs=some b->(∀y∈g,EqAt A.in1 s y x (iW y x))/\g.any (iW · x)=b from have z:=this h
  ⟨λ y t=>z.1 y (List.mem_toArray.mp t),(List.any_toArray ..).trans z.2⟩
 exact m.ind (P:=λ vs g=>∀{b},jQ v vs=some b->(∀y∈g,EqAt A.in1 s y x (iW y x))/\g.any (iW · x)=b) (λ h=>⟨λ y t=>(nomatch t),aM h⟩) λ w vs y g r2 m T b h=>by
  obtain⟨a,k,h⟩:=bind_some h
  obtain⟨E,l,h⟩:=cB.mp h
  have i:=T l
  have j:=Dt (A:=A.in1) r2 r k
  exact⟨λ z o=>(bg.mp o).elim (λ e=>e▸j.1) (i.1 z),by refine List.any_cons.symm▸j.2.symm▸i.2.symm▸?_;exact h⟩
theorem rt(R:Rel J c s){b:Addr}(h:J.h₀.objs.size<=b)(L:sysModules<J.h₀.objs.size):(b==sysModules)=false:=by
 apply kA.mpr;intro q;rw[q]at h;exact aC h L
inductive yn:CmpOp->Bool->Bool->Prop
 |is (b:Bool):yn .In b b
 |no (b:Bool):yn .NotIn b (!b)
theorem yn.both{op:CmpOp}{b q:Bool}(h:yn op b q){G:Bool->Prop}{P:CmpOp->Prop}(g:G q)(M:G b->P .In)(u:G (!b)->P .NotIn):P op:=by
 induction h using yn.casesOn with
 |is b=>exact M g
 |no b=>exact u g
theorem yo{T:String}(j:T="list"\/T="tuple"){v:V}{x:Value}{vs:ar}{a:Addr}{g:aL}{b q:Bool}{op:CmpOp}(r:aD c s.heap v x)(e:SeqAt s.heap T a g)(m:ay c s.heap vs g)(h:jQ v vs=some b)(U:yn op b q)(f:∀{tk:Nat},gy J c s Q (.bool q) {s with toks:=tk}):bL J A E c s (compareOp op x (.ref a)) Q:=by
 have i:=ue (A:=A) r m h
 rw[<-i.2]at U
 rcases j with rfl|rfl
 ·exact U.both (G:=λ q=>∀{tk:Nat},gy J c s Q (.bool q) {s with toks:=tk}) (P:=λ op=>bL J A E c s (compareOp op _ _) Q) f (λ f=>PySem.SeqAt.in_listAt _ e.isList i.1 (f (tk:=s.toks))) λ f=>PySem.SeqAt.notIn_listAt _ e.isList i.1 (f (tk:=s.toks))
 ·exact U.both (G:=λ q=>∀{tk:Nat},gy J c s Q (.bool q) {s with toks:=tk}) (P:=λ op=>bL J A E c s (compareOp op _ _) Q) f (λ f=>PySem.SeqAt.in_tupleAt _ e.dz i.1 (f (tk:=s.toks))) λ f=>PySem.SeqAt.notIn_tupleAt _ e.dz i.1 (f (tk:=s.toks))
theorem Mt(R:Rel J c s)(L:sysModules<J.h₀.objs.size){i:Nat}{k:Int}{t:Tok}{b q:Bool}{op:CmpOp}(hi:i<c.Y.n)(h:OB (c.Y.f i) k=some b)(U:yn op b q)(f:∀{tk:Nat},gy J c s Q (.bool q) {s with toks:=tk}):bL J A E c s (compareOp op (.int k t) (.ref (c.ρ i))) Q:=by
 have r:=R.obj i hi
 have H:(intKind J.prog J.w).is k (.int k t)=true:=hZ k
 generalize e:c.Y.f i=o at h r
 induction o using O.casesOn with
 |dict bC ep=>
  obtain⟨l,M,a,N⟩:=r
  have lk:=cT.lookup (k:=k) N
  have j:(valueAt M k).isSome=b:=by
   refine(aM h)▸?_
   cases d:bC.lookup k with
   |none=>refine(lk.2 d).symm▸?_;rfl
   |some v=>obtain⟨x,I,D⟩:=lk.1 v d;refine I.symm▸?_;rfl
  have p:(c.ρ i==sysModules)=false:=rt R (R.high _ ⟨i,⟨hi,by refine e.symm▸?_;nofun⟩,by exact l▸.head _⟩).1 L
  rw[<-j]at U
  exact U.both (G:=λ q=>∀{tk:Nat},gy J c s Q (.bool q) {s with toks:=tk}) (P:=λ op=>bL J A E c s (compareOp op _ _) Q) f (λ f=>wpAny_in_of H p a.dictOf.mapOf f) λ f=>wpAny_notIn_of H p a.dictOf.mapOf f
 |set xs=>
  obtain⟨l,n,D⟩:=r
  rw[<-aM h]at U
  exact U.both (G:=λ q=>∀{tk:Nat},gy J c s Q (.bool q) {s with toks:=tk}) (P:=λ op=>bL J A E c s (compareOp op _ _) Q) f (λ f=>wpAny_inSet_of H rfl n f) λ f=>wpAny_notInSet_of H rfl n f
 |_=>exact nn h
theorem yq(R:Rel J c s)(L:sysModules<J.h₀.objs.size){v w:V}{x y:Value}{b:Bool}(r1:aD c s.heap v x)(r2:aD c s.heap w y)(h:Sx c.Y v w=some b){op:CmpOp}{q:Bool}(U:yn op b q)(g:Q (.bool q) c.Y):bL J A E c s (compareOp op x y) Q:=by
 have fin:∀{tk:Nat},(gy J c s Q (.bool q) {s with toks:=tk}):=λ{tk}=>⟨c,.bool q,Step.toks R _,rfl,g⟩
 induction w using Mine.V.casesOn with
 |str l=>
  obtain⟨u,rfl⟩:=r2
  obtain⟨k,e,C⟩:=cB.mp h
  obtain⟨z,e,d⟩:=bind_some e
  rw[V.n7 e,Mn d]at r1
  obtain⟨t,rfl⟩:=r1
  rw[<-C,<-I2]at U
  exact U.both (G:=λ q=>∀{tk:Nat},gy J c s Q (.bool q) {s with toks:=tk}) (P:=λ op=>bL J A E c s (compareOp op _ _) Q) fin (λ f=>P.in_str (f (tk:=s.toks))) λ f=>P.notIn_str (f (tk:=s.toks))
 |tuple vs=>
  obtain⟨a,T,rfl,M,D,m⟩:=r2
  exact yo (.inr rfl) r1 M m h U fin
 |list vs=>
  obtain⟨a,T,rfl,M,D,m⟩:=r2
  exact yo (.inl rfl) r1 M m h U fin
 |ref i=>
  obtain⟨k,e,h'⟩:=bind_some h
  rw[V.gh e]at r1
  obtain⟨t,rfl⟩:=r1
  exact r2.2▸Mt R L r2.1 h' U fin
 |_=>exact nn h
theorem lV(R:Rel J c s)(L:sysModules<J.h₀.objs.size)(l:A.units+10<cLine){op:CmpOp}{v w:V}{x y:Value}{b:Bool}(r1:aD c s.heap v x)(r2:aD c s.heap w y)(h:mq c.Y op v w=some b)(g:Q (.bool b) c.Y):bL J A E c s (compareOp op x y) Q:=by
 have n:∀{q:Bool},q=b->(gy J c s Q (.bool q) s):=λ e=>⟨c,.bool b,.refl R,by refine e.symm▸?_;rfl,g⟩
 induction op with
 |Eq=>exact(Fc R L l r1 r2 h).1 _ _ _ _ (n rfl)
 |NotEq=>
  obtain⟨T,h',rfl⟩:=cB.mp h
  exact(Fc R L l r1 r2 h').2 _ _ _ _ (n rfl)
 |Lt=>obtain⟨i,j,rfl,rfl,rfl⟩:=lU h;obtain⟨t,rfl⟩:=r1;obtain⟨u,rfl⟩:=r2;exact P.lt_int (n rfl)
 |LtE=>obtain⟨i,j,rfl,rfl,rfl⟩:=lU h;obtain⟨t,rfl⟩:=r1;obtain⟨u,rfl⟩:=r2;exact P.le_int (n rfl)
 |Gt=>obtain⟨i,j,rfl,rfl,rfl⟩:=lU h;obtain⟨t,rfl⟩:=r1;obtain⟨u,rfl⟩:=r2;exact P.gt_int (n rfl)
 |GtE=>obtain⟨i,j,rfl,rfl,rfl⟩:=lU h;obtain⟨t,rfl⟩:=r1;obtain⟨u,rfl⟩:=r2;exact P.ge_int (n rfl)
 |Is=>obtain⟨r,a⟩:=ym R r1 r2 h;exact wpAny_is_plain r (n a)
 |IsNot=>
  obtain⟨T,h',rfl⟩:=cB.mp h
  obtain⟨r,a⟩:=ym R r1 r2 h'
  exact wpAny_isNot_plain r (n (by exact a.symm▸rfl))
 |In=>exact yq R L r1 r2 h (.is _) g
 |NotIn=>
  obtain⟨T,h',rfl⟩:=cB.mp h
  exact yq R L r1 r2 h' (.no _) g
noncomputable def idx{α:Type}(vs:List α)(i:Int):Option α:=if decide (0<=i)then vs[i.toNat]?else if decide (-(vs.length:Int)<=i)then vs[(i+vs.length).toNat]?else none
noncomputable def gA(Y:Mem)(o:V)(i:V):Option V:=match i with
 | .int i=>match o with
  | .tuple vs=>if decide (vs.length<=1000000)then idx vs i else none
  | .str l=>if decide (l.length<=1000000)then(idx l i).map λ k=> .str [k]else none
  | .bytes l=>if decide (l.length<=1000000)&&decide (0<=i)then(l[i.toNat]?).map (λ(k:Nat)=>V.int (k:Int))else none
  | .list vs=>if decide (vs.length<=1000000)then idx vs i else none
  | .ref j=>match Y.f j with
   | .list vs=>if decide (vs.length<=1000000)then idx vs i else none
   | .dict bC _=>bC.lookup i
   |_=>none
  |_=>none
 |_=>none
noncomputable def mO(n:Nat)(d:Nat)(i:Option Int):Nat:=i.elim d (clipAt n)
noncomputable def cE{α:Type}(vs:List α)(lo hi:Option Int):List α:=(vs.drop (mO vs.length 0 lo)).take (mO vs.length vs.length hi-mO vs.length 0 lo)
noncomputable def rW(Y:Mem)(o:V)(lo hi:Option Int):Option V:=match o with
 | .str l=>if decide (l.length<=1000000)then some (.str (cE l lo hi))else none
 |o=>match bS Y o with
  |some vs=>if decide (vs.length<=1000000)then some (.list (cE vs lo hi))else none
  |none=>none
noncomputable def qt(s:Shared)(o:Value):Prop:=∃T id,s.TypeIs o T/\typeLookup (.type T) "__getitem__"=pure (some (.builtin id))/\o≠.builtin "sys.modules#opaque"
theorem qt.not{o:Value}(g:qt s o){M:Model}{Q:Bool->Shared->Prop}(h:Q false s):wpAny M A (getitemInPython o) Q E s:=by
 obtain⟨T,id,j,N,U⟩:=g
 exact getitemInPython_of_ne U▸ag (wpAny_specialOf j N (aA h))
theorem n9{M:Model}{slice:Expr}{o i:Value}{Q:dR}(h:wpAny M A (getItem o i) Q E s):wpAny M A (subscripted slice false o i) Q E s:=by
 have op:∀l,wpAny M A (operate l (getItem o i)) Q E s:=λ l x p C=>by rw[Sem.wp_operate];exact h x p C
 induction slice using Expr.casesOn with
 |Slice a b st p=>induction st using Option.casesOn<;>exact op _
 |_=>exact op _
theorem og{value slice:Expr}{pos:Pos}{P:eY}{P':V->eY}(h:bL J A E c s (eval value env) P)(L:∀x v c₁ m,Step J c s c₁ m cZ->aD c₁ m.heap v x->P v c₁.Y->wpAny J.ax A (eval slice env) (λ y U=>∃c₂,Step J c₁ m c₂ U cZ/\qt U x/\bL J A E c₂ U (getItem x y) Q) E m):bL J A E c s (eval (.Subscript value slice pos) env) Q:=by
 rw[arm_eval_Subscript]
 refine ag (aV h (λ x m I=> ?_) λ D D e=>e)
 obtain⟨c₁,v,S,r,p⟩:=I
 refine ag (bX (aV (L x v c₁ m S r p) (λ y U j=> ?_) λ D D e=>e))
 obtain⟨c₂,a,g,he⟩:=j
 refine ag (c7 (ag (g.not (ag (n9 (aV he (λ z o i=> ?_) λ D D e=>e))))))
 obtain⟨H,w,T,b,q⟩:=i
 exact ag (wpAny_letTemporaryGo (aA ⟨H,w,S.trans (a.trans T),b,q⟩))
theorem SeqAt.typeIs{a:Addr}{g:aL}{T:String}(x:SeqAt h T a g)(e:s.heap=h):s.TypeIs (.ref a) T:=let⟨n,q⟩:=x;⟨_,e▸q,rfl⟩
theorem mZ{a:Addr}{g:aL}(x:SeqAt s.heap "list" a g):qt s (.ref a):=⟨"list",_,x.typeIs rfl,slot_list_getitem.lookup,nofun⟩
theorem yt{a:Addr}{g:aL}(x:SeqAt s.heap "tuple" a g):qt s (.ref a):=⟨"tuple",_,x.typeIs rfl,F.slot_tuple_getitem.lookup,nofun⟩
theorem uZ{x:Str}{t:Tok}:qt s (.str x t):=⟨"str",_,rfl,F.slot_str_getitem.lookup,nofun⟩
theorem yu{x:Array UInt8}{t:Tok}:qt s (.bytes x t):=⟨"bytes",_,rfl,FB.slot_bytes_getitem.lookup,nofun⟩
theorem ifs{α:Type}{b:Bool}{x:Option α}{v:α}(h:(if b then x else none)=some v):b=true/\x=some v:=by induction b<;>first|exact nn h|exact⟨rfl,h⟩
inductive Fe{α:Type}(vs:List α)(v:α):Int->Prop
 |pos (k:Nat) (e:vs[k]? =some v):Fe vs v (k:Int)
 |neg (i:Int) (h0:i<0) (h1: -(vs.length:Int)<=i) (e:vs[(i+vs.length).toNat]? =some v):Fe vs v i
theorem Ff{α:Type}{vs:List α}{i:Int}{v:α}(h:idx vs i=some v):Fe vs v i:=by
 unfold idx at h
 by_cases q:(0:Int)<=i
 ·rw[aw (af q)]at h
  obtain⟨k,rfl⟩:=Int.eq_ofNat_of_zero_le q
  exact .pos k h
 ·rw[av λ d=>q (ae d)]at h
  have h:=ifs h
  exact .neg i (Int.not_le.mp q) (ae h.1) h.2
theorem Pb{k n:Nat}(M:k<n)(u:n<=1000000):(k:Int)<2^63:=Int.lt_trans (mF.mpr (ah M u)) (by decide)
theorem Pc{n:Nat}{i:Int}(u:n<=1000000)(M: -(n:Int)<=i): -2^63<=i:=Int.le_trans (Int.le_trans (by decide:(-2^63:Int)<= -((1000000:Nat):Int)) (Int.neg_le_neg (gq.mpr u))) M
theorem rX{α:Type}{l:List α}{k:Nat}{v:α}(h:l[k]? =some v):k<l.length:=(List.getElem?_eq_some_iff.mp h).1
theorem yv(R:Rel J c s){a:Addr}{vs:ar}{g:aL}{i:Int}{t:Tok}{v:V}(U:SeqAt s.heap "list" a g)(m:ay c s.heap vs g)(N:vs.length<=1000000)(h:idx vs i=some v)(q:Q v c.Y):bL J A E c s (getItem (.ref a) (.int i t)) Q:=by
 cases Ff h with
 |pos k e=>
  obtain⟨x,I,r⟩:=m.get e
  exact wpAny_getItem_list U.isList (dE k) (Pb (rX e) N) (ib.trans I) ⟨c,v,.refl R,r,q⟩
 |neg _ o M e=>
  obtain⟨x,I,r⟩:=m.get e
  exact wpAny_getItem_list_neg U.isList o (by refine(?_: -(g.length:Int)<=i);exact m.length▸M) (Pc N M) (by refine(?_:g.toArray[(i+(g.length:Int)).toNat]? =_);exact m.length▸ib.trans I) ⟨c,v,.refl R,r,q⟩
structure Pd{α:Type}(vs:List α)(i:Int)(v:α)(k:Nat):Prop where
 sk:seqIndex? i vs.length=some k
 e:vs[k]? =some v
 lo: -2^63<=i
 hi:i<2^63
theorem K1{α:Type}{vs:List α}{i:Int}{v:α}(N:vs.length<=1000000)(h:idx vs i=some v):∃k,Pd vs i v k:=by
 cases Ff h with
 |pos k e=>exact⟨k,StrLaws.seqIndex_nonneg (dE k) (mF.mpr (rX e)),e,Int.le_trans (by decide) (dE k),Pb (rX e) N⟩
 |neg _ q M e=>exact⟨_,StrLaws.seqIndex_neg q M,e,Pc N M,Int.lt_trans q (by decide)⟩
theorem u0(R:Rel J c s){o i v:V}{x y:Value}(r1:aD c s.heap o x)(r2:aD c s.heap i y)(h:gA c.Y o i=some v)(q:Q v c.Y):qt s x/\bL J A E c s (getItem x y) Q:=by
 induction i using Mine.V.casesOn with
 |int i=>
  obtain⟨t,rfl⟩:=r2
  induction o using Mine.V.casesOn with
  |tuple vs=>
   have h:=ifs h
   have U:=ae h.1
   obtain⟨a,g,rfl,e,D,m⟩:=r1
   obtain⟨k,I⟩:=K1 U h.2
   obtain⟨z,b,r⟩:=m.get I.e
   obtain⟨n,p⟩:=id e
   exact⟨yt e,P.getItem_tuple p I.lo I.hi (by refine cA.symm▸m.length▸?_;exact I.sk) (ib.trans b) ⟨c,v,.refl R,r,q⟩⟩
  |str l=>
   obtain⟨u,rfl⟩:=r1
   have h:=ifs h
   obtain⟨k,H,rfl⟩:=cB.mp h.2
   obtain⟨j,I⟩:=K1 (ae h.1) H
   refine⟨uZ,P.getItem_str (c:=k) ?_ ?_ ⟨c,.str [k],Step.toks R _,⟨_,rfl⟩,q⟩⟩
   ·refine(cg (Int.not_lt.mpr I.lo)).symm▸(cg (Int.not_le.mpr I.hi)).symm▸?_;rfl
   ·rw[aU,I.sk];exact ib.trans I.e
  |bytes l=>
   obtain⟨N,u,rfl⟩:=r1
   have h:=ifs h
   have U:=ao h.1
   have M:=ae U.2
   obtain⟨k,H,rfl⟩:=cB.mp h.2
   have L:=rX H
   have C:k<256:=N k (vT H)
   refine⟨yu,getItem_bytes (l:=l.map UInt8.ofNat) (by rw[aX];exact aa (ae U.1) (by decide)) M (by rw[aX];exact(Int.toNat_lt M).mp L) ⟨c,.int k,Step.toks R _,⟨s.toks,?_⟩,q⟩⟩
   refine(kX).symm▸(gN).symm▸H.symm▸?_
   exact aE (λ n:Nat=>Value.int (n:Int) s.toks) ((UInt8.toNat_ofNat' ..).trans (Nat.mod_eq_of_lt C))
  |list vs=>
   have h:=ifs h
   obtain⟨a,g,rfl,e,D,m⟩:=r1
   exact⟨mZ e,yv R e m (ae h.1) h.2 q⟩
  |ref j=>
   obtain⟨T,rfl⟩:=r1
   have d:=R.obj j T
   have h:(match c.Y.f j with| .list vs=>if decide (vs.length<=1000000)then idx vs i else none| .dict bC _=>bC.lookup i|_=>none)=some v:=h
   generalize c.Y.f j=w at d h
   induction w using O.casesOn with
   |list vs=>
    have h:=ifs h
    obtain⟨D,g,e,m⟩:=d
    exact⟨mZ e,yv R e m (ae h.1) h.2 q⟩
   |dict bC ep=>
    obtain⟨D,kx,G,f⟩:=d
    obtain⟨z,b,r⟩:=(cT.lookup f).1 v h
    obtain⟨o,es,eo,ed,D⟩:=id G
    exact⟨⟨"dict",_,⟨o,eo,ed.1⟩,F.slot_dict_getitem.lookup,nofun⟩,wpAny_getItem_of (knd:=intKind J.prog J.w) (k:=i) (hZ i) G.dictOf.mapOf b ⟨c,v,Step.toks R _,r,q⟩⟩
   |_=>exact nn h
  |_=>exact nn h
 |_=>exact nn h
theorem ay.reverse{vs:ar}{xs:aL}(r:ay c h vs xs):ay c h vs.reverse xs.reverse:=r.ind (P:=λ vs xs=>ay c h vs.reverse xs.reverse) trivial λ v vs x xs r D y=>by refine mG.symm▸mG.symm▸?_;exact y.append ⟨r,trivial⟩
theorem ay.slice{vs:ar}{xs:aL}(r:ay c h vs xs)(lo hi:Option Int):ay c h (cE vs lo hi) (cE xs lo hi):=by
 delta cE;exact r.length▸(r.drop _).take _
theorem I5{vs:ar}{g:aL}(m:ay c h vs g)(N:vs.length<=1000000):g.toArray.size<=sizeLine:=by
 refine cA.symm▸m.length▸aQ.symm▸?_;exact aa N (by decide)
theorem slice_list(R:Rel J c s){a g:Addr}{vs:ar}{T:aL}{x y:Value}{lo hi:Option Int}(e:SeqAt s.heap "list" a T)(m:ay c s.heap vs T)(N:vs.length<=1000000)(h:s.heap.IsSliceOf g x y .none)(I:IsPart x lo)(j:IsPart y hi)(q:Q (.list (cE vs lo hi)) c.Y):bL J A E c s (getItem (.ref a) (.ref g)) Q:=by
 refine wpAny_getItem_list_slice e.isList h I j .none nofun ?_ (I5 m N)
 rw[slicePick_plain]
 exact nZ R (t:=s.toks) (m.slice lo hi) q
theorem Fg{α z:Type}{f g:α->Option z}{l:List α}:(∀x∈l,f x=g x)->l.filterMap f=l.filterMap g:=by
 induction l with
 |nil=>exact λ D=>rfl
 |cons x l T=>exact λ h=>by rw[List.filterMap_cons,List.filterMap_cons,h x (.head _),T λ y j=>h y (.tail _ j)]
theorem I6(n:Nat)(i:Int):clipAt n i<=n:=Int.toNat_le.mpr (Int.max_le.mpr ⟨dE n,Int.min_le_right _ _⟩)
theorem yw{n d:Nat}(hd:d<=n)(i:Option Int):mO n d i<=n:=by
 induction i with
 |none=>exact hd
 |some i=>exact I6 n i
theorem Dv(R:Rel J c s){y:Addr}{l:aj}{t:Tok}{lo hi:Option (Int×Tok)}(N:l.length<=1000000)(e:s.heap.IsSlice y lo hi none)(q:Q (.str (cE l (lo.map (·.1)) (hi.map (·.1)))) c.Y):bL J A E c s (getItem (.str (strOf l) t) (.ref y)) Q:=by
 refine wpAny_getItem_str_slice e rfl ?_
 have k:slicePicked (strOf l) lo hi none=sliceRange (mO l.length 0 (lo.map (·.1)):Nat) (mO l.length l.length (hi.map (·.1)):Nat) 1:=by
  refine(?_:sliceRange (sliceBounds (lo.map (·.1)) (hi.map (·.1)) none (strOf l).length).1 (sliceBounds (lo.map (·.1)) (hi.map (·.1)) none (strOf l).length).2.1 1=_)
  rw[aU,sliceBounds_plain]
  rfl
 rw[sliceRange_one]at k
 have U:=yw (ai l.length) (hi.map (·.1))
 have r:=yw (dF l.length) (lo.map (·.1))
 have d:(slicePicked (strOf l) lo hi none).filterMap ((strOf l).cps[·]?)=cE l (lo.map (·.1)) (hi.map (·.1)):=by
  refine k.symm▸?_
  refine(Fg (g:=(l[·]?)) λ D D=>ib).trans ?_
  rcases Nat.le_total (mO l.length 0 (lo.map (·.1))) (mO l.length l.length (hi.map (·.1)))with h|h
  ·exact StrLaws.picks l _ _ (by refine(Nat.add_sub_of_le h).symm▸?_;exact U)
  ·delta cE
   rw[Nat.sub_eq_zero_of_le h,List.take_zero]
   rfl
 delta sliceMade
 by_cases w:((Option.map (λ x:Int×Tok=>x.1) none).getD 1==1&&(slicePicked (strOf l) lo hi none).length==(strOf l).length)=true
 ·rw[aw w]
  have hlen:=bh (ao w).2
  rw[k,aU,aX,bR]at hlen
  have M:mO l.length l.length (hi.map (·.1))=l.length:=Nat.le_antisymm U (aa (bN hlen.symm) (Nat.sub_le _ _))
  rw[M]at hlen
  have i:mO l.length 0 (lo.map (·.1))=0:=Nat.eq_zero_of_not_pos λ p=>az (Nat.sub_lt (ah p r) p) hlen
  have:cE l (lo.map (·.1)) (hi.map (·.1))=l:=by
   delta cE
   rw[i,M,List.drop_zero,Nat.sub_zero,List.take_length]
  rw[this]at q
  exact⟨c,.str l,.refl R,⟨t,rfl⟩,q⟩
 ·refine(av w).symm▸d.symm▸?_
  exact⟨by refine(?_:(strOf _).length<=sizeLine);rw[aU,aQ];skip;refine List.length_take.symm▸List.length_drop.symm▸?_;exact aa (aa (Nat.min_le_right _ _) (Nat.sub_le _ _)) (aa N (by decide)),⟨c,.str (cE l (lo.map (·.1)) (hi.map (·.1))),Step.toks R _,⟨s.toks,rfl⟩,q⟩⟩
theorem Fh(x:aj):∀(n:Nat)(z:Array Nat),(List.foldl (λ(w b:Array Nat)=>w++b) z (List.replicate n x.toArray))=z++((List.replicate n x).flatten).toArray
 |0,z=>by rfl
 |n+1,z=>by rw[rP,gr,Fh x n,rP,List.flatten_cons];simp
theorem ay.rep{vs:ar}{xs:aL}(r:ay c h vs xs):∀n:Nat,ay c h (List.replicate n vs).flatten (List.replicate n xs).flatten
 |0=>trivial
 |n+1=>by rw[rP,rP,List.flatten_cons,List.flatten_cons];exact r.append (ay.rep r n)
theorem oo{prog:Program}{w:World}{l:Addr}{items:Array Value}{n:Nat}{x:Int}{u:Tok}{Q:dR}(N:IsL s.heap l items n)(q:0<=x)(M:x<=1000)(H:items.size<=1000)(h:Q (.ref s.heap.objs.size) {s with heap:=s.heap.push {cls:= .type "list",data:= .seq (List.replicate x.toNat items.toList).flatten.toArray}}):wpAny (model prog w) A (binaryOp .Mult (.ref l) (.int x u)) Q E s:=by
 have hm:items.size*x.toNat<=1000*1000:=Nat.mul_le_mul H (by omega)
 have e:(List.foldl (λ(m b:Array Value)=>m++b) #[] (List.replicate (if items.isEmpty=true then 0 else x.toNat) items))=(List.replicate x.toNat items.toList).flatten.toArray:=by
  have key:∀(n:Nat)(z:Array Value),List.foldl (λ(m b:Array Value)=>m++b) z (List.replicate n items)=z++(List.replicate n items.toList).flatten.toArray:=by
   intro n
   induction n with
   |zero=>intro z;rfl
   |succ n y=>intro z;rw[rP,gr,y,rP,List.flatten_cons,Array.append_assoc];congr 1;apply Array.ext';simp
  split
  ·rename_i he
   have:items= #[]:=by simpa using he
   subst this
   have:∀n:Nat,(List.replicate n ([]:aL)).flatten=[]:=λ n=>by induction n with|zero=>rfl|succ n y=>rw[rP,List.flatten_cons,y];rfl
   simp[this]
  ·rw[key];simp
 rw[<-e]at h
 exact wpAny_binaryOp_repeat_ref (T:="list") (U:="int") (by decide) ⟨_,N,rfl⟩ (λ s'=>typeIs_int s' x u) noFill_list_mul F.fills_int_mul F.slot_int_rmul repeat_list F.slot_int_index.lookup (kB F.slot_int_rmul (typeIs_int s x u) F.entry_int_rmul (F.args_int_rmul_2 _ _) (int___rmul___int_list x u l items n) ⟨N,rfl,⟨_,N,rfl⟩,kB F.slot_list_mul ⟨_,N,rfl⟩ F.entry_list_mul (F.args_list_mul_2 _ _) (AutoListH.list___mul___list_int_3 l items n x u (by simp[Builtin.List.listFitsIndex];omega) (by omega) (by simp[Builtin.List.listTooLong,sizeLine];exact aa hm (by decide))) ⟨N,h⟩⟩)
theorem Dw(R:Rel J c s){v w r:V}{x y:Value}(r1:aD c s.heap v x)(r2:aD c s.heap w y)(h:E6 c.Y v w=some r)(q:Q r c.Y):bL J A E c s (binaryOp .Add x y) Q:=by
 have M:O2 (bS c.Y v) (bS c.Y w)=some r->bL J A E c s (binaryOp .Add x y) Q:=λ h=>by
  cases k:bS c.Y v with
  |none=>rw[k]at h;exact nn h
  |some xs=>
   cases l:bS c.Y w with
   |none=>rw[k,l]at h;exact nn h
   |some ys=>
    rw[k,l]at h
    obtain⟨U,rfl⟩:=bl h
    exact yh R r1 r2 k l (ae U) q
 induction v using Mine.V.casesOn with
 |str a=>
  obtain⟨b,e,h⟩:=bind_some h
  cases V.n7 e
  obtain⟨t,rfl⟩:=r1;obtain⟨u,rfl⟩:=r2
  obtain⟨U,rfl⟩:=bl h
  exact Al R (ae U) q
 |bytes a=>
  obtain⟨b,e,h⟩:=bind_some h
  cases V.uV e
  obtain⟨z,t,rfl⟩:=r1;obtain⟨d,u,rfl⟩:=r2
  obtain⟨U,rfl⟩:=bl h
  exact wb R z d (ae U) q
 |_=>exact M h
theorem Dx(R:Rel J c s){v r:V}{i:Int}{x:Value}{u:Tok}(r1:aD c s.heap v x)(h:E7 c.Y v i=some r)(q:Q r c.Y):bL J A E c s (binaryOp .Mult x (.int i u)) Q:=by
 have G:mulL (bS c.Y v) i=some r->bL J A E c s (binaryOp .Mult x (.int i u)) Q:=λ h=>by
  cases k:bS c.Y v with
  |none=>rw[k]at h;exact nn h
  |some xs=>
   rw[k]at h
   obtain⟨U,rfl⟩:=bl h
   replace U:=(ao U).imp ae λ h=>(ao h).imp ae ae
   obtain⟨a,g,rfl,⟨n,e⟩,m⟩:=dk R r1 k
   refine oo e U.1 U.2.1 (by rw[cA,<-m.length];exact U.2.2) ?_
   exact nZ R (t:=s.toks) (m.rep i.toNat) q
 exact G h
theorem Dy(R:Rel J c s){op:Operator}{v w r:V}{x y:Value}(r1:aD c s.heap v x)(r2:aD c s.heap w y)(h:mn c.Y op v w=some r)(q:Q r c.Y):bL J A E c s (binaryOp op x y) Q:=by
 unfold mn at h
 cases e:v.int? with
 |some i=>
  rw[e]at h
  obtain⟨j,l,h⟩:=bind_some h
  cases V.gh e;cases V.gh l
  obtain⟨t,rfl⟩:=r1;obtain⟨u,rfl⟩:=r2
  obtain⟨z,a,rfl⟩:=cB.mp h
  exact Mk R a q
 |none=>
  rw[e]at h
  induction op with
  |Add=>exact Dw R r1 r2 h q
  |Mult=>
   obtain⟨j,l,h⟩:=bind_some h
   cases V.gh l
   obtain⟨u,rfl⟩:=r2
   exact Dx R r1 h q
  |_=>first|exact nf h|exact nn h|subst h
structure bA(J:Cx):Prop where
 Pf:∀a o,J.K.lookup a=some o->J.h₀.get? a=some o/\a≠J.P
 sys:sysModules<J.h₀.objs.size
 lim:∃o,J.K.lookup cStatics=some o/\o.data= .dict #[] 0
theorem Rel.K(R:Rel J c s)(ok:bA J):J.K.In s.heap:=λ a o e=>R.base a o (ok.Pf a o e).1 (ok.Pf a o e).2
theorem Rel.lim(R:Rel J c s)(ok:bA J):s.heap.NoLimit:=by
 obtain⟨o,e,hd⟩:=ok.lim
 exact⟨λ D=>none,⟨o,#[],0,R.K ok _ _ e,hd,λ D h=>by simp at h,λ D=>rfl⟩,rfl⟩
noncomputable def instChk(K:Frag)(C:Addr):Bool:=findIn K (.ref C) "__getattribute__"==some (some (.builtin "object.__getattribute__"))&&findIn K (.ref C) "__getattr__"==some none&&findIn K (.ref C) "__setattr__"==some (some (.builtin "object.__setattr__"))&&plainOver K C&&(clsIn K C).any (·.hasDict)&&(List.range 9).all (λ k=>findIn K (.ref C) (attrName k)==some none)
structure rY(K:Frag)(C:Addr):Prop where
 ga:findIn K (.ref C) "__getattribute__"=some (some (.builtin "object.__getattribute__"))
 gk:findIn K (.ref C) "__getattr__"=some none
 sa:findIn K (.ref C) "__setattr__"=some (some (.builtin "object.__setattr__"))
 po:plainOver K C=true
 hd:hasDictIn K C=true
 B:∀k,k<9->findIn K (.ref C) (attrName k)=some none
theorem instOK_of{K:Frag}{C:Addr}(h:instChk K C=true):rY K C:=by
 unfold instChk at h
 simp only[qk,dD,fg,dU]at h
 obtain⟨⟨⟨⟨⟨M,u⟩,r⟩,g⟩,T⟩,E⟩:=h
 exact⟨M,u,r,g,T,E⟩
theorem rZ{k j:Nat}{t:Tok}(H:k<9)(s:j<9):(Value.str (attrName k) t).isStr (attrName j)=decide (k=j):=by
 refine(?_:(attrName k==attrName j)=_)
 by_cases e:k=j
 ·subst e;simp
 ·refine(cg e).symm▸?_
  refine kA.mpr λ q=>e ?_
  have:=vX ⟨k,H⟩ ⟨j,s⟩ q
  simpa using this
theorem bI.keys:∀{as:List (Nat×V)}{es:List DictEntry},bI c h as es->∀e∈es,∃k t,k<9/\e.key= .str (attrName k) t
 |[],[],_,e,he=>by exact absurd he dt
 |(k,v)::as,U::es,r,e,he=>by
  rcases bg.mp he with rfl|he
  ·obtain⟨t,u⟩:=r.2.1;exact⟨k,t,r.1,u⟩
  ·exact bI.keys r.2.2.2 e he
 |[],_::_,r,_,_=>r.elim
 |_::_,[],r,_,_=>r.elim
theorem bI.find{k:Nat}(H:k<9){as:List (Nat×V)}{es:List DictEntry}(r:bI c h as es):(∀v,as.lookup k=some v->∃e,es.find? (·.key.isStr (attrName k))=some e/\aD c h v e.val)/\(as.lookup k=none->es.find? (·.key.isStr (attrName k))=none):=by
 induction as generalizing es with
 |nil=>induction es using List.casesOn with
  |nil=>exact⟨λ v e=>nn e,λ D=>rfl⟩
  |cons=>exact r.elim
 |cons a as y=>induction es using List.casesOn with
  |nil=>exact r.elim
  |cons e es=>
   obtain⟨j,v⟩:=a
   obtain⟨s,⟨t,u⟩,o,A⟩:=r
   rw[eF,List.find?_cons,u,rZ s H]
   by_cases q:j=k
   ·rw[q,hZ,af rfl];exact⟨λ w m=>⟨e,rfl,aM m▸o⟩,λ m=>nn m.symm⟩
   ·refine(kA.mpr λ z=>q z.symm).symm▸(cg q).symm▸?_
    exact y A
theorem bI.noRef{as:List (Nat×V)}{es:List DictEntry}(r:bI c h as es):es.any (·.refKey)=false:=by
 rw[List.any_eq_false]
 intro e he
 obtain⟨k,t,D,H⟩:=r.keys e he
 delta DictEntry.refKey;rw[H];exact λ h=>nomatch h
theorem bI.look{k:Nat}{ep:Nat}(H:k<9){as:List (Nat×V)}{es:List DictEntry}(r:bI c h as es):(∀v,as.lookup k=some v->∃x,lookIn (attrName k) (dictOf es ep)=some (some x)/\aD c h v x)/\(as.lookup k=none->lookIn (attrName k) (dictOf es ep)=some none):=by
 obtain⟨A,Q⟩:=r.find H
 unfold lookIn dictOf
 dsimp only
 refine⟨λ v e=> ?_,λ e=> ?_⟩
 ·obtain⟨U,he,o⟩:=A v e
  exact he▸⟨_,rfl,o⟩
 ·refine(Q e).symm▸?_
  simp[r.noRef]
theorem yx{v:V}{x:Value}(r:aD c h v x):handedIn x=true:=by
 induction v using Mine.V.casesOn with
 |none=>refine r.symm▸?_;rfl
 |bool _=>refine r.symm▸?_;rfl
 |int _=>obtain⟨t,rfl⟩:=r;rfl
 |str _=>obtain⟨t,rfl⟩:=r;rfl
 |bytes _=>obtain⟨D,t,rfl⟩:=r;rfl
 |ref _=>obtain⟨D,rfl⟩:=r;rfl
 |list _=>obtain⟨a,g,rfl,D⟩:=r;rfl
 |tuple _=>obtain⟨a,g,rfl,D⟩:=r;rfl
 |glob _=>refine r.symm▸?_;rfl
 |ty _=>refine r.symm▸?_;rfl
 |bi b=>refine r.symm▸?_;induction b<;>decide+kernel
 |bm b=>refine r.symm▸?_;induction b<;>decide+kernel
 |it _=>exact r.elim
 |kE _=>exact r.elim
 |aF=>exact r.elim
theorem inst_at(R:Rel J c s){i C:Nat}{as:List (Nat×V)}(hi:i<c.Y.n)(e:c.Y.f i= .inst C as):∃d es ep,c.fp i=[c.ρ i,d]/\c.ρ i≠d/\s.heap.get? d=some (dictOf es ep)/\bI c s.heap as es/\InstAt s.heap (c.ρ i) (instObj C d) C (some (dictOf es ep)):=by
 have t:=R.obj i hi
 rw[e]at t
 obtain⟨d,es,ep,A,ne,k,l,r⟩:=t
 exact⟨d,es,ep,A,ne,l,r,⟨k,rfl,rfl,l⟩⟩
theorem r6(R:Rel J c s)(ok:bA J){i C k:Nat}{as:List (Nat×V)}{v:V}{b:Bool}(hi:i<c.Y.n)(e:c.Y.f i= .inst C as)(ic:rY J.K C)(H:k<9)(N:as.lookup k=some v)(q:Q v c.Y):bL J A E c s (getAttr (.ref (c.ρ i)) (attrName k) b) Q:=by
 obtain⟨d,es,ep,D,D,D,r,I⟩:=inst_at R hi e
 obtain⟨x,u,o⟩:=(r.look (ep:=ep) H).1 v N
 exact get_value (R.K ok) I ic.ga (findObj_own ic.hd (ic.B k H) rfl u) (yx o) ⟨c,v,Step.toks R _,o,q⟩
noncomputable def I7(J:Cx)(A:Around)(E:dR)(c:Vw)(s:Shared)(t:Sem Unit)(Q:Mem->Prop):Prop:=wpAny J.ax A t (yg J c s λ D=>Q) E s
theorem I7.go{t:Sem Unit}{Q:Mem->Prop}{P:Unit->Shared->Prop}(h:I7 J A E c s t Q)(f:∀u s' G,Step J c s G s' cZ->Q G.Y->P u s'):wpAny J.ax A t P E s:=aV h (λ b s' ⟨G,S,q⟩=>f b s' G S q) λ D D z=>z
noncomputable def mu:List (Nat×V)->Nat->V->List (Nat×V)
 |[],k,v=>[(k,v)]
 |(j,w)::r,k,v=>if j=k then(j,v)::r else(j,w)::mu r k v
theorem bI.put{k:Nat}{hash:Int}{t:Tok}{v:V}{x:Value}(H:k<9)(o:aD c h v x){as:List (Nat×V)}{es:List DictEntry}(r:bI c h as es):bI c h (mu as k v) (nsPutIn (attrName k).cps.size (attrName k).cps.toList (λ|some e=>{e with val:=x}|none=>⟨hash,.str (attrName k) t,x⟩) es).1:=by
 induction as generalizing es with
 |nil=>induction es using List.casesOn with
  |nil=>exact⟨H,⟨t,rfl⟩,o,trivial⟩
  |cons=>exact r.elim
 |cons a as y=>induction es using List.casesOn with
  |nil=>exact r.elim
  |cons e es=>
   obtain⟨j,w⟩:=a
   obtain⟨s,⟨u,A⟩,N,l⟩:=r
   have y:=y l
   unfold nsPutIn
   refine(?_:bI c h (if j=k then(j,v)::as else(j,w)::mu as k v) _)
   rw[Value.isStrByCps_eq,A,rZ s H]
   by_cases q:j=k
   ·refine(af q).symm▸(aw q).symm▸(aw rfl).symm▸?_
    exact⟨s,⟨u,A⟩,o,l⟩
   ·refine(cg q).symm▸(av q).symm▸(av kW).symm▸?_
    generalize nsPutIn (attrName k).cps.size (attrName k).cps.toList _ es=z at y⊢
    exact⟨s,⟨u,A⟩,N,y⟩
theorem bI.length:∀{as:List (Nat×V)}{es:List DictEntry},bI c h as es->as.length=es.length
 |[],[],_=>rfl
 |_::_,_::_,r=>by simp[bI.length r.2.2.2]
 |[],_::_,r=>r.elim
 |_::_,[],r=>r.elim
theorem yz(k:Nat)(v:V)(as:List (Nat×V)):(mu as k v).length<=as.length+1:=by
 induction as with
 |nil=>exact ai _
 |cons p r y=>
  obtain⟨j,w⟩:=p
  refine(?_:(if j=k then(j,v)::r else(j,w)::mu r k v).length<=r.length+1+1)
  by_cases e:j=k
  ·rw[aw e];exact dC _
  ·rw[av e];exact gI y
theorem r7(name:Str)(hash:Int)(key v:Value)(es:List DictEntry)(ep:Nat):∃r,Obj.putName name hash key v (dictOf es ep)=dictOf (nsPutIn name.cps.size name.cps.toList (λ|some e=>{e with val:=v}|none=>⟨hash,key,v⟩) es).1 r:=by
 unfold Obj.putName dictOf
 dsimp only
 generalize nsPutIn name.cps.size name.cps.toList _ es=z
 obtain⟨o,ad⟩:=z
 induction ad<;>exact⟨_,rfl⟩
theorem r8(R:Rel J c s)(ok:bA J){i C k:Nat}{as:List (Nat×V)}{v:V}{x:Value}{Q:Mem->Prop}(hi:i<c.Y.n)(e:c.Y.f i= .inst C as)(ic:rY J.K C)(H:k<9)(T:as.length<=100)(o:aD c s.heap v x)(q:Q (c.Y.set i (.inst C (mu as k v)))):I7 J A E c s (setAttr (.ref (c.ρ i)) (attrName k) x) Q:=by
 obtain⟨d,es,ep,l,ne,f,r,I⟩:=inst_at R hi e
 have p:c.live i:=⟨hi,by refine e.symm▸?_;nofun⟩
 have X:=R.K ok
 have L:takerIn J.K C (attrName k)=some none:=by delta takerIn;rw[ic.B k H];rfl
 refine set_plain X I ic.sa (osa_open (s:={s with toks:=s.toks+1}) X I ic.po L λ b=> ?_)
 obtain⟨m,z,M⟩:=any_some ic.hd
 have u:=I.at_
 refine ag (aA (ag (ag (wpAny_loadPart u (ag ((looks_clsIn X z) _ _ _ _ (λ D D e=>e) ?_))))))
 refine M.symm▸?_
 refine aA (a:=some d) (ag (aA (ag ?_)))
 refine ag (ag (wpAny_askSetting (aA (ag (wpAny_mkText (ag (wpAny_loadPart f ?_)))))))
 dsimp only
 have y:aRefKeyMayBeTheName (attrName k) es.toArray=false:=by
  rw[aRefKeyMayBeTheName_at]
  have:es.toArray.any (·.refKey)=false:=by exact List.any_toArray▸r.noRef
  rw[this,Bool.and_false]
 refine y.symm▸?_
 generalize n:(if(attrName k).cps.isEmpty=true then(0:Int)else _)=hash
 obtain⟨h,hp⟩:=r7 (attrName k) hash (.str (attrName k) (s.toks+1)) x es ep
 have w:(s.heap.update d (Obj.putName (attrName k) hash (.str (attrName k) (s.toks+1)) x)).get? d=some (dictOf _ h):=(Heap.get?_update_self _ f (by refine hp.symm▸?_;rfl)).trans (aE some hp)
 have S:=R.upd (s':={s with heap:=s.heap.update d (Obj.putName (attrName k) hash (.str (attrName k) (s.toks+1)) x),toks:=s.toks+1+1}) p (.inst C (mu as k v))
  (λ b j G U=>by rw[l]at U;simp at U;exact(nU _ _ (Ne.symm U.2)).trans G) (by refine(?_:_<=(Heap.update _ _ _).objs.size);rw[uK];exact ai _) rfl rfl
  λ g=>⟨d,_,h,l,ne,(nU _ _ (Ne.symm ne)).trans u,w,(r.carry g).put H (o.carry g)⟩
 refine wpAny_updatePart f (ag (wpAny_lookBehind w ?_ (aA ⟨c.set i (.inst C (mu as k v)),S,q⟩)))
 have N:=((r.put (hash:=hash) (t:=s.toks+1) H o)).length
 have h2:=yz k v as
 exact pastItsLine_dict (by refine cA.symm▸N▸sizeLine_eq.symm▸?_;omega)
theorem Dz(R:Rel J c s)(ok:bA J){i C f:Nat}{as:List (Nat×V)}{name:Str}{v:Sem Bool}{Q:Value×aL->Shared->Prop}(hi:i<c.Y.n)(e:c.Y.f i= .inst C as)(ic:rY J.K C)(l:findIn J.K (.ref C) name=some (some (.ref f)))(u:typeIn J.K (.ref f)=some (.type "function"))(w:∀k,k<9->attrName k≠name)(q:Q (.ref f,[.ref (c.ρ i)]) s):wpAny J.ax A (getMethod (.ref (c.ρ i)) name v) Q E s:=by
 obtain⟨d,es,ep,D,D,D,r,I⟩:=inst_at R hi e
 refine method_fn (R.K ok) I ic.ga ic.gk l u ?_ q
 have fn:es.find? (·.key.isStr name)=none:=by
  rw[List.find?_eq_none]
  intro h z
  obtain⟨k,t,H,y⟩:=r.keys h z
  refine y.symm▸?_
  refine(?_:¬(attrName k==name)=true)
  simp[w k H]
 unfold shadowIn lookIn dictOf
 simp[fn,r.noRef]
section
open PySem.Calls Builtin Builtin.ObjectAttr Builtin.Getset_descriptor
noncomputable def I8:List Str:=["node","npredecessors","successors"]
noncomputable def d3(j:Nat):Str:=I8.getD j "?"
structure Mu(K:Frag)(C j p:Nat):Prop where
 fi:findIn K (.ref C) (d3 j)=some (some (.ref p))
 ge:specialIn K (.ref p) "__get__"=some (some (.builtin "member_descriptor.__get__"))
 tk:takesIn K (.ref p)=some true
 si:slotIn K p C=some j
 ty:typeIn K (.ref p)=some (.type "member_descriptor")
 lt:j<3
structure wh(K:Frag)(C:Addr):Prop where
 ga:findIn K (.ref C) "__getattribute__"=some (some (.builtin "object.__getattribute__"))
 gk:findIn K (.ref C) "__getattr__"=some none
 sa:findIn K (.ref C) "__setattr__"=some (some (.builtin "object.__setattr__"))
 po:plainOver K C=true
 cl:(clsIn K C).isSome=true
 sl:∀j,j<3->∃p,Mu K C j p
noncomputable def Fi(K:Frag)(C j:Nat)(r:Option (Option Value)):Bool:=match r with
 |some (some (.ref p))=>specialIn K (.ref p) "__get__"==some (some (.builtin "member_descriptor.__get__"))&&takesIn K (.ref p)==some true&&slotIn K p C==some j&&typeIn K (.ref p)==some (.type "member_descriptor")
 |_=>false
noncomputable def I9(K:Frag)(C j:Nat):Bool:=Fi K C j (findIn K (.ref C) (d3 j))
noncomputable def rz(K:Frag)(C:Addr):Bool:=findIn K (.ref C) "__getattribute__"==some (some (.builtin "object.__getattribute__"))&&findIn K (.ref C) "__getattr__"==some none&&findIn K (.ref C) "__setattr__"==some (some (.builtin "object.__setattr__"))&&plainOver K C&&(clsIn K C).isSome&&(List.range 3).all (I9 K C)
theorem DA{K:Frag}{C:Addr}(h:rz K C=true):wh K C:=by
 unfold rz at h
 simp only[qk,dD,fg,dU]at h
 obtain⟨⟨⟨⟨⟨M,u⟩,l⟩,g⟩,T⟩,E⟩:=h
 refine⟨M,u,l,g,T,λ j s=> ?_⟩
 have:Fi K C j (findIn K (.ref C) (d3 j))=true:=E j s
 generalize hp:findIn K (.ref C) (d3 j)=r at this
 obtain D|D|p:=r
 ·exact nf this
 ·exact nf this
 induction p using Value.casesOn with
 |ref p=>
  have t1:=ao this
  have t2:=ao t1.1
  have t:=ao t2.1
  exact⟨p,hp,bh t.1,bh t.2,bh t2.2,bh t1.2,s⟩
 |_=>exact nf this
theorem BV(R:Rel J c s){i C:Nat}{vs:ar}(hi:i<c.Y.n)(e:c.Y.f i= .node C vs):∃d y,c.fp i=[c.ρ i,d]/\c.ρ i≠d/\s.heap.get? d=some emptyDict/\jt c s.heap vs y/\InstAt s.heap (c.ρ i) {cls:= .ref C,dict:=some d,data:= .plain,slots:=y} C (some emptyDict):=by
 have t:=R.obj i hi
 rw[e]at t
 obtain⟨d,y,A,ne,k,l,r⟩:=t
 exact⟨d,y,A,ne,l,r,⟨k,rfl,rfl,l⟩⟩
theorem get_node(R:Rel J c s)(ok:bA J){i C j:Nat}{vs:ar}{v:V}{b:Bool}(hi:i<c.Y.n)(e:c.Y.f i= .node C vs)(U:wh J.K C)(G:j<3)(n:vs[j]? =some v)(l:v≠.aF)(q:Q v c.Y):bL J A E c s (getAttr (.ref (c.ρ i)) (d3 j) b) Q:=by
 obtain⟨d,y,D,D,D,r,I⟩:=BV R hi e
 obtain⟨p,M⟩:=U.sl j G
 rcases r j v n with h|⟨x,u,o⟩
 ·exact absurd h l
 refine get_bind (R.K ok) I U.ga (findObj_data U.cl M.fi M.ge M.tk) U.gk (wpAny_call (slot_get (s:={s with toks:=s.toks+1}) (R.K ok) I M.si u ?_))
 dsimp only
 exact handedOut_of (yx o)▸aA ⟨c,v,Step.toks R _,o,q⟩
theorem Fj{prog:Program}{w:World}{K:Frag}{C x p i:Nat}{y:Obj}{l:Option Obj}{v:Value}{R:Result->Shared->Prop}(X:K.In s.heap)(I:InstAt s.heap x y C l)(hp:slotIn K p C=some i)(hi:i<1000)(h:R (.ok (.ret .none)) {s with heap:=s.heap.update x λ o=>{o with slots:=(o.slots++Array.replicate (i+1-o.slots.size) none).setIfInBounds i (some v)}}):codeAny (model prog w) A (.call (.builtin "member_descriptor.__set__") ⟨[.ref p,.ref x,v],[]⟩) R s:=by
 obtain⟨n,f,owner,behind,j,d,m,N,E,z,hm,U,rfl⟩:=slot_of X hp
 obtain⟨r,g,q,t,os⟩:=s
 have Q:=I.type (M:=model prog w)
 have T:=looks_mroIn (M:=model prog w) X hm
 have a:Looks (model prog w) r (Slots.slotNamesOf (.ref C)) N.slotNames:=(looks_clsIn X z).andThen .now
 have u:=I.at_
 dsimp only at E u Q T
 have k:=looks_field (M:=model prog w) E 0 (v:= .str n f) rfl
 have f1:=looks_field (M:=model prog w) E 1 (v:=owner) rfl
 have e:=looks_field (M:=model prog w) E 3 (v:= .builtin "proto.slot#set") rfl
 have b:=looks_field (M:=model prog w) E 4 (v:= .int behind j) rfl
 refine codeAny_call_builtin KF.slot_mset.plain KF.entry_mset (KF.slot_mset.check _ _ _ _ _ _ _ _ ⟨_,E,rfl⟩ (KF.args_mset _ _ _) ?_)
 unfold Builtin.«member_descriptor.__set__» descrSet descrStoreThrough descrCheckInstance descrNameAndClass isInstance
 have c:Looks (model prog w) r (descrItself (.ref p)) [.ref p]:=((Looks.ld (part:=none) E).andThen .now).andThen (Looks.of_pure (by kernel_rfl))
 repeat lk
 refine⟨Code.quiet_builtin _ (by decide+kernel),codeAny_builtin KF.entry_slotset ?_⟩
 unfold Builtin.«proto.slot#set» Slots.target
 repeat lk
 refine(av U).symm▸?_
 refine aA (ag ?_)
 unfold setSlotAt
 dsimp only
 rw[av (by rw[sizeLine_eq];omega)]
 exact wpAny_updatePart u (aA h)
theorem jt.put{vs:ar}{g:Array (Option Value)}{j:Nat}{v:V}{x:Value}(r:jt c h vs g)(o:aD c h v x):jt c h (vs.set j v) ((g++Array.replicate (j+1-g.size) none).setIfInBounds j (some x)):=by
 intro k w m
 rw[List.getElem?_set]at m
 have hsz:j<(g++Array.replicate (j+1-g.size) none).size:=by simp;omega
 by_cases e:j=k
 ·subst e
  rw[aw rfl]at m
  split at m
  ·obtain rfl:=aM m
   right
   exact⟨x,by refine(Array.getElem?_setIfInBounds_self_of_lt hsz).symm▸?_;rfl,o⟩
  ·exact nn m
 ·rw[av e]at m
  rcases r k w m with q|⟨y,t,E⟩
  ·exact .inl q
  ·right
   refine⟨y,?_,E⟩
   refine(Array.getElem?_setIfInBounds_ne (h:=e)).symm▸?_
   have:k<g.size:=by
    cases q:g[k]?with
    |none=>rw[q]at t;exact nn t
    |some z=>exact(Array.getElem?_eq_some_iff.mp q).1
   exact Array.getElem?_append_left this▸t
set_option maxHeartbeats 1000000 in
theorem set_node(R:Rel J c s)(ok:bA J){i C j:Nat}{vs:ar}{v:V}{x:Value}{Q:Mem->Prop}(hi:i<c.Y.n)(e:c.Y.f i= .node C vs)(U:wh J.K C)(G:j<3)(N:aD c s.heap v x)(q:Q (c.Y.set i (.node C (vs.set j v)))):I7 J A E c s (setAttr (.ref (c.ρ i)) (d3 j) x) Q:=by
 obtain⟨d,T,l,ne,D,r,I⟩:=BV R hi e
 obtain⟨p,h⟩:=U.sl j G
 have m:c.live i:=⟨hi,by refine e.symm▸?_;nofun⟩
 have X:=R.K ok
 have u:takerIn J.K C (d3 j)=some (some (.ref p)):=by unfold takerIn;refine h.fi.symm▸?_;simp[h.tk]
 refine set_plain X I U.sa (osa_descr (s:={s with toks:=s.toks+1}) KF.slot_mset X I U.po u h.ty (Fj (s:={s with toks:=s.toks+1}) X I h.si (by exact aa G (by decide)) ?_))
 have S:=R.upd (s':={s with heap:=s.heap.update (c.ρ i) λ o=>{o with slots:=(o.slots++Array.replicate (j+1-o.slots.size) none).setIfInBounds j (some x)},toks:=s.toks+1}) m (.node C (vs.set j v))
  (λ b a H M=>by rw[l]at M;simp at M;exact(nU _ _ (Ne.symm M.1)).trans H) (by refine(?_:_<=(Heap.update _ _ _).objs.size);rw[uK];exact ai _) rfl rfl
  λ g=>⟨d,_,l,ne,Heap.get?_update_self _ I.at_ rfl,(nU _ _ ne).trans D,(show jt _ _ vs T from λ k w f=>(r k w f).imp id λ⟨y,t,n⟩=>⟨y,t,n.carry g⟩).put (N.carry g)⟩
 exact⟨c.set i (.node C (vs.set j v)),S,q⟩
theorem Fm(R:Rel J c s)(C:Addr)(t:Nat):Step J c s (c.new (s.heap.objs.size+1) [s.heap.objs.size+1,s.heap.objs.size] [] (.inst C [])) {s with heap:=(s.heap.push emptyDict).push (instObj C s.heap.objs.size),toks:=t} cZ:=by
 have d:((s.heap.push emptyDict).push (instObj C s.heap.objs.size)).objs.size=s.heap.objs.size+2:=by rw[cf,cf]
 have M:((s.heap.push emptyDict).push (instObj C s.heap.objs.size)).get? (s.heap.objs.size+1)=some (instObj C s.heap.objs.size):=by
  have:=bM (s.heap.push emptyDict) (o:=instObj C s.heap.objs.size) rfl
  rwa[cf]at this
 refine R.new (s':={s with heap:=(s.heap.push emptyDict).push (instObj C s.heap.objs.size),toks:=t}) (s.heap.objs.size+1) [s.heap.objs.size+1,s.heap.objs.size] [] (.inst C []) (λ D D e=>bt _ (bt _ e)) (by refine d.symm▸?_;exact au _ _) rfl rfl (λ b U=> ?_) (λ b U=>by exact absurd U dt) λ g=> ?_
 ·refine(?_:_/\b<((s.heap.push emptyDict).push (instObj C s.heap.objs.size)).objs.size)
  refine d.symm▸?_;simp only[bg,dt,or_false]at U
  rcases U with rfl|rfl
  ·exact⟨dC _,bF _⟩
  ·exact⟨ai _,gO (bF _)⟩
 ·exact⟨s.heap.objs.size,[],0,rfl,qo _,M,bt _ (bM _ rfl),trivial⟩
theorem Fn(R:Rel J c s)(C:Addr)(t:Nat):Step J c s (c.new (s.heap.objs.size+1) [s.heap.objs.size+1,s.heap.objs.size] [] (.node C [.aF,.aF,.aF])) {s with heap:=(s.heap.push emptyDict).push (instObj C s.heap.objs.size),toks:=t} cZ:=by
 have d:((s.heap.push emptyDict).push (instObj C s.heap.objs.size)).objs.size=s.heap.objs.size+2:=by rw[cf,cf]
 have M:((s.heap.push emptyDict).push (instObj C s.heap.objs.size)).get? (s.heap.objs.size+1)=some (instObj C s.heap.objs.size):=by
  have:=bM (s.heap.push emptyDict) (o:=instObj C s.heap.objs.size) rfl
  rwa[cf]at this
 refine R.new (s':={s with heap:=(s.heap.push emptyDict).push (instObj C s.heap.objs.size),toks:=t}) (s.heap.objs.size+1) [s.heap.objs.size+1,s.heap.objs.size] [] (.node C [.aF,.aF,.aF]) (λ D D e=>bt _ (bt _ e)) (by refine d.symm▸?_;exact au _ _) rfl rfl (λ b U=> ?_) (λ b U=>by exact absurd U dt) λ g=> ?_
 ·refine(?_:_/\b<((s.heap.push emptyDict).push (instObj C s.heap.objs.size)).objs.size)
  refine d.symm▸?_;simp only[bg,dt,or_false]at U
  rcases U with rfl|rfl
  ·exact⟨dC _,bF _⟩
  ·exact⟨ai _,gO (bF _)⟩
 ·refine⟨s.heap.objs.size,#[],rfl,qo _,M,bt _ (bM _ rfl),λ j v n=> .inl ?_⟩
  match j,n with
  |0,n=>exact aM n.symm
  |1,n=>exact aM n.symm
  |2,n=>exact aM n.symm
  |j+3,n=>exact nn n
end
inductive ME where
 |lit (v:V)
 |var (i:Nat)
 |ck (k:Nat)
 |bin (op:Operator) (a b:ME)
 |cmp (op:CmpOp) (a b:ME)
 |pF (a:ME) (o1:CmpOp) (b:ME) (o2:CmpOp) (d:ME)
 |neg (a:ME)
 |EZ (t a b:ME)
 |bor (a b:ME)
 |call (f:ME) (args:List ME) (ns:List Str) (kws:List ME)
 |star (a:ME)
 |aY (o:ME) (m:Nat) (args:List ME)
 |mP (o:ME) (m:Nat) (args:List ME)
 |attr (o:ME) (k:Nat)
 |slot (o:ME) (j:Nat)
 |sub (o i:ME)
 |slice (o:ME) (lo hi:Option ME)
 |list (mt:Bool) (es:List ME)
 |tuple (es:List ME)
 |qu
 |comp (mt:Bool) (elt:ME) (tg:aj) (it:ME) (tests:List ME)
 |uf (a:ME)
 |qT (es:List ME)
 |Mw (es:List ME)
 |zip (k:Nat) (a b:ME)
 |range (k:Nat) (args:List ME)
 |values (o:ME)
 |dX (k:Nat) (o:ME)
 |r9 (k:Nat) (o:ME)
 |Fo (a:ME)
 |mulM (a b:ME)
 deriving Inhabited
inductive Ac where
 |var (i:Nat)
 |attr (o:ME) (k:Nat)
 |slot (o:ME) (j:Nat)
 |sub (o i:ME)
 deriving Inhabited
inductive MS where
 |assign (ts:List Ac) (e:ME)
 |unpack (is:aj) (e:ME)
 |aug (i:Nat) (op:Operator) (e:ME)
 |iX (o:ME) (k:Nat) (op:Operator) (e:ME)
 |iY (o:ME) (j:Nat) (op:Operator) (e:ME)
 |dP (t:ME) (a b:List MS)
 |u5 (i:Nat) (e:ME) (a b:List MS)
 |ft (t:ME) (body orelse:List MS)
 |eR (tg:aj) (it:ME) (body:List MS)
 |oq (i:Nat) (it:ME) (body:List MS)
 |ret (e:ME)
 |expr (e:ME)
 |brk
 |cont
 |iZ (t:ME)
 |DB (body:List MS)
 |lW (i st it nd g:Nat)
 |m7 (o i:ME) (op:Operator) (e:ME)
 |se (g C:Nat) (args:List ME)
 |lB (o:ME) (m:Nat) (args:List ME)
 |Fp (a:List MS) (g C:Nat) (h:Option (Nat×V))
 |dead
 deriving Inhabited
inductive Fl where
 |next|brk|cont
 |ret (v:V)
 |exc (C:Nat)
structure Pg where
 G:List (Str×V)
 meths:List (Nat×Nat×Nat)
 insts:aj
 sh:Nat
 DC:aj:=[]
variable{pg:Pg}
noncomputable def Ja:List Str:=["append","pop","extend","clear","get","add","encode","join","count","translate","decode","maketrans","read","get_token","push_token","_read_char","prepare","get_ready","is_active","done","_find_cycle","_get_nodeinfo"]
noncomputable def ba(m:Nat):Str:=Ja.getD m "?"
noncomputable def Pg.aY(pg:Pg)(C m:Nat):Option Nat:=(pg.meths.find? λ x=>x.1==C&&x.2.1==m).map (·.2.2)
noncomputable def Bm.ty:Bm->Nat
 | .iS| .vV| .iT| .lp=>0| .vW=>1| .yb=>2| .gd| .kD=>3| .d2| .iU=>4| .c0=>5
noncomputable def Bm.no:Bm->Nat
 | .iS=>0| .vV=>1| .iT=>2| .lp=>3| .vW=>4| .yb=>5| .gd=>6| .kD=>7| .d2=>9| .iU=>10| .c0=>11
noncomputable def Mx(t m:Nat):Option Bm:=[.iS,.vV,.iT,.lp,.vW,.yb,.gd,.kD,.d2,.iU,.c0].find? λ b=>Nat.beq b.ty t&&Nat.beq b.no m
noncomputable def Au(t:Nat)(v:V)(m:Nat):Option (V×ar):=(Mx t m).map λ b=>(.bm b,[v])
noncomputable def jv(pg:Pg)(o:O)(v:V)(m:Nat):Option (V×ar):=match o with
 | .list _=>Au 0 v m
 | .dict _ _=>Au 1 v m
 | .set _=>Au 2 v m
 | .inst C as=>if pg.insts.contains C then(if m=12 then(as.lookup 4).bind λ f=>match f with
   | .ref j=>some (.ref j,[])
   |_=>none else(pg.aY C m).map λ fa=>(.glob fa,[v]))else none
 |_=>none
noncomputable def ik(pg:Pg)(Y:Mem)(v:V)(m:Nat):Option (V×ar):=match v with
 | .ref i=>jv pg (Y.f i) v m
 | .str _=>Au 3 v m
 | .bytes _=>Au 4 v m
 | .ty t=>if t= .bytes/\m=11 then some (.bm .c0,[])else none
 |_=>none
noncomputable def intsOf:ar->Option (List Int)
 |[]=>some []
 | .int i::r=>(intsOf r).map (i::·)
 |_::_=>none
noncomputable def strsOf:ar->Option (List aj)
 |[]=>some []
 | .str s::r=>(strsOf r).map (s::·)
 |_::_=>none
noncomputable def Fq:O->Option Nat
 | .list vs=>some vs.length
 | .dict bC _=>some bC.length
 |_=>none
noncomputable def Jb(Y:Mem):V->Option Nat
 | .str l=>some l.length
 | .bytes l=>some l.length
 | .tuple l=>some l.length
 | .ref i=>Fq (Y.f i)
 |v=>(bS Y v).map (·.length)
noncomputable def K2:V->Option Ty
 | .str _=>some .str
 | .bytes _=>some .bytes
 | .bool _=>some .bool
 | .int _=>some .int
 |_=>none
noncomputable def dH(sep:aj):List aj->aj
 |[]=>[]
 |[x]=>x
 |x::y::r=>x++sep++dH sep (y::r)
noncomputable def ascii(l:aj):Bool:=l.all (·<128)
noncomputable def lC(I l:aj):aj:=l.map λ k=>I.getD k 0
noncomputable def fu(a b:aj):aj:=(List.range 256).map λ k=>((a.zip b).reverse.lookup k).getD k
noncomputable def Ad(a b:aj):Bool:= !decide (b<a)
noncomputable def iq(l:List aj):List aj:=l.mergeSort Ad
noncomputable def isAscii(l:aj):Bool:=decide (l=[97,115,99,105,105])
noncomputable def K3(t:Ty)(b:Option Bool):Option Bool:=match t with
 | .str=>b
 |_=>none
noncomputable def Jc(v:V):Bool:=match v with
 | .ty t=>match t with
  | .bytes=>true
  |_=>false
 |_=>false
noncomputable def Jd(v:V):Bool:=match v with
 | .ty t=>match t with
  | .bytearray=>true
  |_=>false
 |_=>false
noncomputable def BW(v:V):Option Bool:=match v with
 | .str _=>some true
 | .bytes _=>some false
 |_=>none
noncomputable def BX(v t:V):Option Bool:=match t with
 | .ty t=>K3 t (BW v)
 | .tuple vs=>match vs with
  |[a,b]=>if(Jc a&&Jd b)=true then(BW v).map not else none
  |_=>none
 |_=>none
noncomputable def short{α:Type}(l:List α):Bool:=decide (l.length<=100000)
theorem My{α:Type}{k:α}{l:ar}{r:α}(h:(match l with|[]=>some k|_=>none)=some r):l=[]/\k=r:=by
 induction l using List.casesOn with
 |nil=>exact⟨rfl,aM h⟩
 |cons v l=>exact nn h
theorem Fs{α:Type}{k:V->Option α}{l:ar}{r:α}(h:(match l with|[v]=>k v|_=>none)=some r):∃v,l=[v]/\k v=some r:=by
 induction l using List.casesOn with
 |nil=>exact nn h
 |cons v l=>induction l using List.casesOn with
  |nil=>exact⟨v,rfl,h⟩
  |cons w l=>exact nn h
theorem Av{α:Type}{k:V->V->Option α}{l:ar}{r:α}(h:(match l with|[v,w]=>k v w|_=>none)=some r):∃v w,l=[v,w]/\k v w=some r:=by
 induction l using List.casesOn with
 |nil=>exact nn h
 |cons v l=>induction l using List.casesOn with
  |nil=>exact nn h
  |cons w l=>induction l using List.casesOn with
   |nil=>exact⟨v,w,rfl,h⟩
   |cons x l=>exact nn h
theorem pG{α:Type}{k:Int->Option α}{v:V}{r:α}(h:(match v with| .int i=>k i|_=>none)=some r):∃i,v= .int i/\k i=some r:=by
 induction v using Mine.V.casesOn with
 |int i=>exact⟨i,rfl,h⟩
 |_=>exact nn h
theorem Aw{α:Type}{k:Nat->Option α}{v:V}{r:α}(h:(match v with| .ref i=>k i|_=>none)=some r):∃i,v= .ref i/\k i=some r:=by
 induction v using Mine.V.casesOn with
 |ref i=>exact⟨i,rfl,h⟩
 |_=>exact nn h
theorem Ft{α:Type}{k:aj->Option α}{v:V}{r:α}(h:(match v with| .str i=>k i|_=>none)=some r):∃i,v= .str i/\k i=some r:=by
 induction v using Mine.V.casesOn with
 |str i=>exact⟨i,rfl,h⟩
 |_=>exact nn h
theorem Fu{α:Type}{k:aj->Option α}{v:V}{r:α}(h:(match v with| .bytes i=>k i|_=>none)=some r):∃i,v= .bytes i/\k i=some r:=by
 induction v using Mine.V.casesOn with
 |bytes i=>exact⟨i,rfl,h⟩
 |_=>exact nn h
theorem Mz{α:Type}{k:ar->Option α}{v:V}{r:α}(h:(match v with| .tuple i=>k i|_=>none)=some r):∃i,v= .tuple i/\k i=some r:=by
 induction v using Mine.V.casesOn with
 |tuple i=>exact⟨i,rfl,h⟩
 |_=>exact nn h
theorem rA{α:Type}{k:ar->Option α}{v:O}{r:α}(h:(match v with| .list i=>k i|_=>none)=some r):∃i,v= .list i/\k i=some r:=by
 induction v with
 |list i=>exact⟨i,rfl,h⟩
 |_=>exact nn h
theorem BY{α:Type}{k:List (Int×V)->Nat->Option α}{v:O}{r:α}(h:(match v with| .dict i e=>k i e|_=>none)=some r):∃i e,v= .dict i e/\k i e=some r:=by
 induction v using Mine.O.casesOn with
 |dict i e=>exact⟨i,e,rfl,h⟩
 |_=>exact nn h
theorem MA{α:Type}{k:List Int->Option α}{v:O}{r:α}(h:(match v with| .set i=>k i|_=>none)=some r):∃i,v= .set i/\k i=some r:=by
 induction v using Mine.O.casesOn with
 |set i=>exact⟨i,rfl,h⟩
 |_=>exact nn h
theorem u6{α:Type}{k:ar->Option α}{v:Option ar}{r:α}(h:(match v with|some i=>k i|none=>none)=some r):∃i,v=some i/\k i=some r:=by
 induction v using Option.casesOn with
 |some i=>exact⟨i,rfl,h⟩
 |none=>exact nn h
theorem K4{α:Type}{k:List Int->Option α}{v:Option (List Int)}{r:α}(h:(match v with|some i=>k i|none=>none)=some r):∃i,v=some i/\k i=some r:=by
 induction v using Option.casesOn with
 |some i=>exact⟨i,rfl,h⟩
 |none=>exact nn h
theorem MB{α:Type}{k:Nat->Option α}{v:Option (Nat)}{r:α}(h:(match v with|some i=>k i|none=>none)=some r):∃i,v=some i/\k i=some r:=by
 induction v using Option.casesOn with
 |some i=>exact⟨i,rfl,h⟩
 |none=>exact nn h
theorem SA{α:Type}{k:V->Option α}{v:Option (V)}{r:α}(h:(match v with|some i=>k i|none=>none)=some r):∃i,v=some i/\k i=some r:=by
 induction v using Option.casesOn with
 |some i=>exact⟨i,rfl,h⟩
 |none=>exact nn h
theorem Pj{α:Type}{k:List aj->Option α}{v:Option (List aj)}{r:α}(h:(match v with|some i=>k i|none=>none)=some r):∃i,v=some i/\k i=some r:=by
 induction v using Option.casesOn with
 |some i=>exact⟨i,rfl,h⟩
 |none=>exact nn h
noncomputable def Vk(vs:ar)(f:V->Prop):Prop:=match vs with
 |[v]=>f v
 |_=>False
theorem SD{vs:ar}{f:V->Prop}(h:Vk vs f):∃v,vs=[v]/\f v:=by
 induction vs using List.casesOn with
 |nil=>exact h.elim
 |cons v vs=>induction vs using List.casesOn with
  |nil=>exact⟨v,rfl,h⟩
  |cons=>exact h.elim
theorem sj{P:V->Prop}{k:Nat->Prop}{v:V}(h:match v with| .ref i=>k i|_=>False)(g:∀i,k i->P (.ref i)):P v:=by
 induction v using V.casesOn with
 |ref i=>exact g i h
 |_=>exact h.elim
theorem SE{P:V->Prop}{k:Int->Prop}{v:V}(h:match v with| .int i=>k i|_=>False)(g:∀i,k i->P (.int i)):P v:=by
 induction v using V.casesOn with
 |int i=>exact g i h
 |_=>exact h.elim
theorem instP{P:Prop}{k:Nat->List (Nat×V)->Prop}{v:O}(h:match v with| .inst C as=>k C as|_=>False)(g:∀C as,v= .inst C as->k C as->P):P:=by
 induction v using O.casesOn with
 |inst i as=>exact g i as rfl h
 |_=>exact h.elim
theorem BZ{P:Prop}{k:Nat->ar->Prop}{v:O}(h:match v with| .node C as=>k C as|_=>False)(g:∀C as,v= .node C as->k C as->P):P:=by
 induction v using O.casesOn with
 |node i as=>exact g i as rfl h
 |_=>exact h.elim
theorem K5{α:Type}{b:Bool}{x:Option α}{r:α}(h:(if b=true then x else none)=some r):b=true/\x=some r:=by
 induction b using Bool.casesOn with
 |true=>exact⟨rfl,h⟩
 |false=>exact nn h
noncomputable def dY(Y:Mem)(f:V)(args:ar):Option (V×Mem):=match f with
 | .ty t=>match t with
  | .int=>match args with
   |[v]=>match v with
    | .int i=>some (.int i,Y)
    |_=>none
   |_=>none
  | .bytes=>match args with
   |[v]=>match bS Y v with
    |some vs=>match intsOf vs with
     |some is=>if short is&&is.all (λ i=>decide (0<=i)&&decide (i<256))then some (.bytes (is.map Int.toNat),Y)else none
     |none=>none
    |none=>none
   |_=>none
  | .tuple=>match args with
   |[v]=>match bS Y v with
    |some vs=>if short vs then some (.tuple vs,Y)else none
    |none=>none
   |_=>none
  | .set=>match args with
   |[]=>some (.ref Y.n,Y.alloc (.set []))
   |_=>none
  | .type=>match args with
   |[v]=>(K2 v).map λ t=>(.ty t,Y)
   |_=>none
  | .bool=>match args with
   |[v]=>(b6 Y v).map λ b=>(.bool b,Y)
   |_=>none
  |_=>none
 | .bi b=>match b with
  | .sum=>match args with
   |[v]=>match bS Y v with
    |some vs=>match intsOf vs with
     |some is=>if short is then some (.int is.sum,Y)else none
     |none=>none
    |none=>none
   |_=>none
  | .sorted=>match args with
   |[v]=>match v with
    | .ref i=>match Y.f i with
     | .list vs=>if decide (vs.length<60)then(strsOf vs).map λ T=>(.list ((iq T).map .str),Y)else none
     |_=>none
    |_=>none
   |_=>none
  | .len=>match args with
   |[v]=>match Jb Y v with
    |some n=>if decide (n<=1000000)then some (.int n,Y)else none
    |none=>none
   |_=>none
  | .isinstance=>match args with
   |[v,t]=>(BX v t).map λ b=>(.bool b,Y)
   |_=>none
  |_=>none
 | .bm b=>match b with
  | .iS=>match args with
   |[v,w]=>match v with
    | .ref i=>match Y.f i with
     | .list vs=>if short vs then some (.none,Y.set i (.list (vs++[w])))else none
     |_=>none
    |_=>none
   |_=>none
  | .vV=>match args with
   |[v,w]=>match v with
    | .ref i=>match w with
     | .int k=>match Y.f i with
      | .list vs=>if short vs&&decide (0<=k)then match vs[k.toNat]?with
       |some v=>some (v,Y.set i (.list (vs.eraseIdx k.toNat)))
       |none=>none else none
      |_=>none
     |_=>none
    |_=>none
   |_=>none
  | .iT=>match args with
   |[v,w]=>match v with
    | .ref i=>match w with
     | .str l=>match Y.f i with
      | .list vs=>if short vs&&short l then some (.none,Y.set i (.list (vs++l.map λ k=> .str [k])))else none
      |_=>none
     |_=>none
    |_=>none
   |_=>none
  | .lp=>match args with
   |[v]=>match v with
    | .ref i=>match Y.f i with
     | .list vs=>if short vs then some (.none,Y.set i (.list []))else none
     |_=>none
    |_=>none
   |_=>none
  | .vW=>match args with
   |[v,w]=>match v with
    | .ref i=>match w with
     | .int k=>match Y.f i with
      | .dict bC _=>some ((bC.lookup k).getD .none,Y)
      |_=>none
     |_=>none
    |_=>none
   |_=>none
  | .yb=>match args with
   |[v,w]=>match v with
    | .ref i=>match w with
     | .int k=>match Y.f i with
      | .set xs=>if decide (xs.length<=1000)then some (.none,Y.set i (.set (if k∈xs then xs else xs++[k])))else none
      |_=>none
     |_=>none
    |_=>none
   |_=>none
  | .gd=>match args with
   |[v,w]=>match v with
    | .str l=>match w with
     | .str e=>if isAscii e&&ascii l&&short l then some (.bytes l,Y)else none
     |_=>none
    |_=>none
   |_=>none
  | .iU=>match args with
   |[v,w]=>match v with
    | .bytes l=>match w with
     | .str e=>if isAscii e&&ascii l&&short l then some (.str l,Y)else none
     |_=>none
    |_=>none
   |_=>none
  | .kD=>match args with
   |[v,w]=>match v with
    | .str sep=>match bS Y w with
     |some vs=>match strsOf vs with
      |some T=>if short (dH sep T)&&short T&&short sep then some (.str (dH sep T),Y)else none
      |none=>none
     |none=>none
    |_=>none
   |_=>none
  | .d2=>match args with
   |[v,w]=>match v with
    | .bytes l=>match w with
     | .bytes I=>if decide (I.length=256)&&short l then some (.bytes (lC I l),Y)else none
     |_=>none
    |_=>none
   |_=>none
  | .c0=>match args with
   |[v,w]=>match v with
    | .bytes a=>match w with
     | .bytes b=>if decide (a.length=b.length)&&decide (a.length<=256)then some (.bytes (fu a b),Y)else none
     |_=>none
    |_=>none
   |_=>none
 |_=>none
noncomputable def c8(c:Vw)(h:Heap):List Str->ar->List (Str×Value)->Prop
 |[],[],[]=>True
 |n::ns,v::vs,(m,x)::r=>n=m/\aD c h v x/\c8 c h ns vs r
 |_,_,_=>False
inductive Fv(J:Cx)(c:Vw)(s:Shared)(Q:eY)(r:Result)(s':Shared):Prop
 |mk (x:Value) (c':Vw) (v:V) (e:r= .ok (.ret x)) (S:Step J c s c' s' cZ) (rv:aD c' s'.heap v x) (q:Q v c'.Y):Fv J c s Q r s'
noncomputable def aH(J:Cx)(d:Nat)(f:V)(args:ar)(ns:List Str)(kws:ar)(Q:eY)(Y:Mem):Prop:=∀A c s o xs ks,ja d A->vZ A c->c.Y=Y->Rel J c s->aD c s.heap f o->ay c s.heap args xs->c8 c s.heap ns kws ks->(∃k,Looks J.ax s.heap (keeperOf o) k)/\codeAny J.ax A (.call o ⟨xs,ks⟩) (Fv J c s Q) s
inductive SF(c:Vw)(A:Around)(g:Heap)(C:Nat)(e:Addr)(h:Heap):Prop
 |mk (base:Heap) (a0:Value) (kb:∀b o,g.get? b=some o->b∉c.z->base.get? b=some o) (up:∀b o,g.get? b=some o->b∈c.z->∃sl,h.get? b=some {o with slots:=sl}) (sz:g.objs.size<=h.objs.size) (fl:∀l,A.frames=some l->Heap.FlyingW base l e (.ref C) a0 h):SF c A g C e h
inductive B0(J:Cx)(A:Around)(c:Vw)(s:Shared)(Q:eY)(X:Nat->Mem->Prop)(r:Result)(s':Shared):Prop
 |ok (h:Fv J c s Q r s'):B0 J A c s Q X r s'
 |exc (e:Addr) (C:Nat) (c':Vw) (g:Heap) (he:r= .error (.ref e)) (S:Step J c s c' {s' with heap:=g} cZ) (f:SF c' A g C e s'.heap) (x:X C c'.Y):B0 J A c s Q X r s'
noncomputable def sr(J:Cx)(d:Nat)(f:V)(args:ar)(Q:eY)(X:Nat->Mem->Prop)(Y:Mem):Prop:=∀A c s o xs,ja d A->vZ A c->c.Y=Y->Rel J c s->aD c s.heap f o->ay c s.heap args xs->(∃k,Looks J.ax s.heap (keeperOf o) k)/\codeAny J.ax A (.call o ⟨xs,[]⟩) (B0 J A c s Q X) s
noncomputable def lB(J:Cx)(d:Nat)(f:V)(args:ar)(Q:eY)(X:Nat->Mem->Prop)(Y:Mem):Prop:=match d with
 |0=>False
 |d+1=>sr J (d+1) f args Q X Y
noncomputable def pH(f:V)(args:ar)(kws:ar)(Q:eY)(Y:Mem):Prop:=match kws with
 |[]=>match dY Y f args with
  |some (v,σ')=>Q v σ'
  |none=>False
 |_=>False
noncomputable def gB(J:Cx)(d:Nat)(f:V)(args:ar)(ns:List Str)(kws:ar)(Q:eY)(Y:Mem):Prop:=match f with
 | .glob a=>match d with
  |0=>False
  |d+1=>aH J (d+1) f args ns kws Q Y
 | .ref i=>match d with
  |0=>False
  |d+1=>aH J (d+1) f args ns kws Q Y
 |f=>pH f args kws Q Y
noncomputable def sv(i:Nat)(o:O):Option (Bool×ar×(Mem->Prop)):=match o with
 | .list vs=>some (false,vs,λ σ'=>σ'.f i= .list vs)
 | .dict bC ep=>some (false,(bC.map (·.1)).map .int,λ σ'=>∃t,σ'.f i= .dict t ep/\t.map (·.1)=bC.map (·.1))
 |_=>none
noncomputable def jw(Y:Mem):V->Option (Bool×ar×(Mem->Prop))
 | .list vs=>some (false,vs,λ D=>True)
 | .tuple vs=>some (false,vs,λ D=>True)
 | .str l=>some (false,l.map λ k=> .str [k],λ D=>True)
 | .bytes l=>some (false,l.map λ(k:Nat)=>V.int (k:Int),λ D=>True)
 | .it s vs=>some (s,vs,λ D=>True)
 | .kE i=>match Y.f i with
  | .dict bC ep=>some (false,bC.map (·.2),λ σ'=>σ'.f i= .dict bC ep)
  |_=>none
 | .ref i=>sv i (Y.f i)
 |_=>none
noncomputable def lD(a b c:Int):ar:=(List.range (Builtin.Range.rangeSize a b c).toNat).map λ(j:Nat)=>V.int (a+j*c)
noncomputable def lE(k:Bool)(N:aj)(v:V)(B:ar):Option ar:=match k with
 |false=>match N with
  |[i]=>some (B.set i v)
  |_=>none
 |true=>match N with
  |[i,j]=>match v with
   | .tuple vs=>match vs with
    |[a,b]=>some ((B.set i a).set j b)
    |_=>none
   |_=>none
  |_=>none
noncomputable def Fw(t:aj)(B:ar):ar:=t.foldl (λ f i=>f.set i .aF) B
noncomputable def compLoop(step:V->(ar->Mem->Prop)->Mem->Prop)(g:Mem->Prop):ar->(ar->Mem->Prop)->ar->Mem->Prop
 |[],K,acc,Y=>g Y/\K acc Y
 |v::vs,K,acc,Y=>g Y/\short acc=true/\step v (λ m σ'=>compLoop step g vs K (acc++m) σ') Y
noncomputable def u7(J:ar->Mem->Prop)(Q:Fl->ar->Mem->Prop)(x:Fl)(B:ar)(Y:Mem):Prop:=match x with
 | .next| .cont=>J B Y
 | .brk=>Q .next B Y
 | .ret w=>Q (.ret w) B Y
 | .exc _=>False
noncomputable def forLoop(step:V->(Fl->ar->Mem->Prop)->ar->Mem->Prop)(g:Mem->Prop)(vs:ar)(Q:Fl->ar->Mem->Prop):ar->Mem->Prop:=match vs with
 |[]=>λ B Y=>g Y/\Q .next B Y
 |v::vs=>λ B Y=>g Y/\step v (u7 (forLoop step g vs Q) Q) B Y
noncomputable def got(v:V)(Q:V->Prop):Prop:=match v with
 | .aF=>False
 |v=>Q v
noncomputable def opt{α:Type}(x:Option α)(Q:α->Prop):Prop:=match x with
 |some a=>Q a
 |none=>False
noncomputable def jR(v:V):Option (Option Int):=match v with
 | .none=>some none
 | .int i=>some (some i)
 |_=>none
noncomputable def RN(star:Bool)(v:V)(Y:Mem):Option ar:=match star with
 |false=>some [v]
 |true=>match v with
  | .tuple vs=>if short vs then some vs else none
  |v=>match bS Y v with
   |some vs=>if short vs then some vs else none
   |none=>none
noncomputable def ME.isStar(m:ME):Bool:=decide (m.ctorIdx=10)
theorem ME.lX{P:ME->Prop}{m:ME}(h:m.isStar=true)(f:∀a,P (.star a)):P m:=ME.star.elim m (ae h) f
noncomputable def Je(a b:V):Option ar:=match a with
 | .list xs=>match b with
  | .list ys=>some (List.zipWith (λ x y=> .tuple [x,y]) xs ys)
  | .bytes ys=>some (List.zipWith (λ x (y:Nat)=> .tuple [x,.int (y:Int)]) xs ys)
  |_=>none
 |_=>none
noncomputable def SG(Y:Mem)(a b:V):Option ar:=b.int?.bind λ n=>(bS Y a).bind λ xs=>if decide (0<=n)&&(decide (n<=1000)&&decide (xs.length<=1000))then some (List.replicate n.toNat xs).flatten else none
noncomputable def W0(i:Int):Bool:=decide (0<=i)&&decide (i<=1000000)
noncomputable def Ax:ar->Option ar:=λ vs=>match vs with
 |[v]=>match v with
  | .int b=>if W0 b then some (lD 0 b 1)else none
  |_=>none
 |_=>none
mutual
noncomputable def wE(J:Cx)(pg:Pg)(d:Nat):ME->(eY)->ar->Mem->Prop
 | .lit v,Q,_,Y=>Q v Y
 | .var i,Q,B,Y=>got (B.getD i .aF) λ v=>Q v Y
 | .ck k,Q,_,Y=>opt pg.G[k]? λ x=>Q x.2 Y
 | .bin op a b,Q,B,Y=>wE J pg d a (λ va Y=>wE J pg d b (λ vb Y=>opt (mn Y op va vb) λ v=>Q v Y) B Y) B Y
 | .cmp op a b,Q,B,Y=>wE J pg d a (λ va Y=>wE J pg d b (λ vb Y=>opt (mq Y op va vb) λ v=>Q (.bool v) Y) B Y) B Y
 | .pF a U b c e,Q,B,Y=>wE J pg d a (λ va Y=>wE J pg d b (λ vb Y=>opt (mq Y U va vb) λ q=>match q with
   |true=>wE J pg d e (λ u Y=>opt (mq Y c vb u) λ v=>Q (.bool v) Y) B Y
   |false=>Q (.bool false) Y) B Y) B Y
 | .neg a,Q,B,Y=>wE J pg d a (λ va Y=>match va with| .int i=>Q (.int (-i)) Y|_=>False) B Y
 | .EZ t a b,Q,B,Y=>wE J pg d t (λ v Y=>opt (b6 Y v) λ q=>match q with
   |true=>wE J pg d a Q B Y
   |false=>wE J pg d b Q B Y) B Y
 | .bor a b,Q,B,Y=>wE J pg d a (λ v Y=>opt (b6 Y v) λ q=>match q with
   |true=>Q v Y
   |false=>wE J pg d b Q B Y) B Y
 | .call f args ns kws,Q,B,Y=>wE J pg d f (λ A Y=>wEs J pg d args (λ vs Y=>wEs J pg d kws (λ ks Y=>gB J d A vs ns ks Q Y) B Y) B Y) B Y
 | .star _,_,_,_=>False
 | .aY o m args,Q,B,Y=>wE J pg d o (λ v Y=>opt (ik pg Y v m) λ x=>wEs J pg d args (λ vs Y=>gB J d x.1 (x.2++vs) [] [] Q Y) B Y) B Y
 | .mP o m args,Q,B,Y=>wE J pg d o (λ v Y=>match v with
   | .ref i=>match Y.f i with
    | .inst C _=>pg.insts.contains C=true/\opt (pg.aY C m) λ fa=>wEs J pg d args (λ vs Y=>gB J d (.glob fa) (.ref i::vs) [] [] Q Y) B Y
    |_=>False
   |_=>False) B Y
 | .attr o k,Q,B,Y=>wE J pg d o (λ v Y=>match v with
   | .ref i=>match Y.f i with
    | .inst C as=>pg.insts.contains C=true/\opt (as.lookup k) λ w=>got w λ w=>Q w Y
    |_=>False
   |_=>False) B Y
 | .slot o j,Q,B,Y=>wE J pg d o (λ v Y=>match v with
   | .ref i=>match Y.f i with
    | .node C vs=>C=pg.sh/\opt vs[j]? λ w=>got w λ w=>Q w Y
    |_=>False
   |_=>False) B Y
 | .sub o i,Q,B,Y=>wE J pg d o (λ vo Y=>wE J pg d i (λ vi Y=>opt (gA Y vo vi) λ v=>Q v Y) B Y) B Y
 | .slice o lo hi,Q,B,Y=>wE J pg d o (λ vo Y=>wO J pg d lo (λ H Y=>wO J pg d hi (λ M Y=>opt (jR H) λ l=>opt (jR M) λ h=>opt (rW Y vo l h) λ v=>Q v Y) B Y) B Y) B Y
 | .list mt es,Q,B,Y=>wEs J pg d es (λ vs Y=>match mt with
   |false=>Q (.list vs) Y
   |true=>Q (.ref Y.n) (Y.alloc (.list vs))) B Y
 | .tuple es,Q,B,Y=>wEs J pg d es (λ vs Y=>Q (.tuple vs) Y) B Y
 | .qu,Q,_,Y=>Q (.ref Y.n) (Y.alloc (.dict [] 0))
 | .comp mt elt N it tests,Q,B,Y=>wE J pg d it (λ vi Y=>opt (jw Y vi) λ x=>
   compLoop (λ v K Y=>opt (lE x.1 N v B) λ s=>wTs J pg d tests (λ b Y=>match b with
    |true=>wE J pg d elt (λ r Y=>K [r] Y) s Y
    |false=>K [] Y) s Y) x.2.2 x.2.1 (λ n Y=>short n=true/\match mt with
     |false=>Q (.list n) Y
     |true=>Q (.ref Y.n) (Y.alloc (.list n))) [] Y) B Y
 | .uf a,Q,B,Y=>wE J pg d a (λ v Y=>opt (b6 Y v) λ b=>Q (.bool (!b)) Y) B Y
 | .qT es,Q,B,Y=>wTs J pg d es (λ b Y=>Q (.bool b) Y) B Y
 | .Mw es,Q,B,Y=>RO J pg d es (λ b Y=>Q (.bool b) Y) B Y
 | .zip _ a b,Q,B,Y=>wE J pg d a (λ va Y=>wE J pg d b (λ vb Y=>opt (Je va vb) λ vs=>Q (.it true vs) Y) B Y) B Y
 | .range _ as,Q,B,Y=>wEs J pg d as (λ vs Y=>opt (Ax vs) λ vs=>Q (.it false vs) Y) B Y
 | .values o,Q,B,Y=>wE J pg d o (λ v Y=>match v with| .ref i=>Q (.kE i) Y|_=>False) B Y
 | .dX _ o,Q,B,Y=>wE J pg d o (λ v Y=>match v with
   | .ref i=>match Y.f i with
    | .inst C as=>pg.insts.contains C=true/\opt (pg.aY C 15) λ fa=>Q (.ref Y.n) (Y.alloc (.dX fa (.ref i)))
    |_=>False
   |_=>False) B Y
 | .r9 _ o,Q,B,Y=>wE J pg d o (λ v Y=>match v with
   | .ref i=>opt (Y.f i).fq λ D=>Q (.ref Y.n) (Y.alloc (.xX i 0))
   |_=>False) B Y
 | .Fo a,Q,B,Y=>wE J pg d a Q B Y
 | .mulM a b,Q,B,Y=>wE J pg d a (λ va Y=>wE J pg d b (λ vb Y=>opt (SG Y va vb) λ xs=>Q (.ref Y.n) (Y.alloc (.list xs))) B Y) B Y
noncomputable def wEs(J:Cx)(pg:Pg)(d:Nat):List ME->(ar->Mem->Prop)->ar->Mem->Prop
 |[],Q,_,Y=>Q [] Y
 | .star a::es,Q,B,Y=>wE J pg d a (λ v Y=>opt (RN true v Y) λ vs=>wEs J pg d es (λ ws Y=>Q (vs++ws) Y) B Y) B Y
 |e::es,Q,B,Y=>wE J pg d e (λ v Y=>wEs J pg d es (λ ws Y=>Q (v::ws) Y) B Y) B Y
noncomputable def wO(J:Cx)(pg:Pg)(d:Nat):Option ME->(eY)->ar->Mem->Prop
 |none,Q,_,Y=>Q .none Y
 |some e,Q,B,Y=>wE J pg d e Q B Y
noncomputable def wTs(J:Cx)(pg:Pg)(d:Nat):List ME->(Bool->Mem->Prop)->ar->Mem->Prop
 |[],Q,_,Y=>Q true Y
 |e::es,Q,B,Y=>wE J pg d e (λ v Y=>opt (b6 Y v) λ b=>match b with
   |true=>wTs J pg d es Q B Y
   |false=>Q false Y) B Y
noncomputable def RO(J:Cx)(pg:Pg)(d:Nat):List ME->(Bool->Mem->Prop)->ar->Mem->Prop
 |[],Q,_,Y=>Q false Y
 |e::es,Q,B,Y=>wE J pg d e (λ v Y=>opt (b6 Y v) λ b=>match b with
   |true=>Q true Y
   |false=>RO J pg d es Q B Y) B Y
end
noncomputable def SH(Y:Mem)(a b:V):Option (V×Mem):=match a with
 | .int i=>match b with
  | .int j=>some (.int (i+j),Y)
  |_=>none
 | .str x=>match b with
  | .str y=>if decide (x.length+y.length<=1000000)then some (.str (x++y),Y)else none
  |_=>none
 |_=>none
noncomputable def wi(Y:Mem)(op:Operator)(a b:V):Option (V×Mem):=match op with
 | .Add=>SH Y a b
 | .Sub=>match a with
  | .int i=>match b with
   | .int j=>some (.int (i-j),Y)
   |_=>none
  |_=>none
 |_=>none
noncomputable def putD(bC:List (Int×V))(k:Int)(v:V):List (Int×V):=match bC with
 |[]=>[(k,v)]
 |(j,w)::r=>if j=k then(j,v)::r else(j,w)::putD r k v
noncomputable def ot(Y:Mem)(a:Nat)(k:Int)(v:V)(o:O):Option (Nat->Mem):=match o with
 | .list vs=>if decide (0<=k)&&decide (k<vs.length)&&short vs then some (λ D=>Y.set a (.list (vs.set k.toNat v)))else none
 | .dict bC ep=>if short bC then some (λ ep=>Y.set a (.dict (putD bC k v) ep))else none
 |_=>none
noncomputable def jd(Y:Mem)(o i v:V):Option (Nat->Mem):=match o with
 | .ref a=>match i with
  | .int k=>ot Y a k v (Y.f a)
  |_=>none
 |_=>none
noncomputable def wG(J:Cx)(pg:Pg)(d:Nat):Ac->V->(ar->Mem->Prop)->ar->Mem->Prop
 | .var i,v,Q,B,Y=>Q (B.set i v) Y
 | .attr o k,v,Q,B,Y=>wE J pg d o (λ w Y=>match w with
   | .ref i=>match Y.f i with
    | .inst C as=>pg.insts.contains C=true/\k<9/\as.length<=100/\Q B (Y.set i (.inst C (mu as k v)))
    |_=>False
   |_=>False) B Y
 | .slot o j,v,Q,B,Y=>wE J pg d o (λ w Y=>match w with
   | .ref i=>match Y.f i with
    | .node C vs=>C=pg.sh/\j<3/\Q B (Y.set i (.node C (vs.set j v)))
    |_=>False
   |_=>False) B Y
 | .sub o i,v,Q,B,Y=>wE J pg d o (λ w Y=>wE J pg d i (λ u Y=>opt (jd Y w u v) λ f=>∀ep,Q B (f ep)) B Y) B Y
noncomputable def SI(J:Cx)(pg:Pg)(d:Nat):List Ac->V->(ar->Mem->Prop)->ar->Mem->Prop
 |[],_,Q,B,Y=>Q B Y
 |t::ts,v,Q,B,Y=>wG J pg d t v (λ B Y=>SI J pg d ts v Q B Y) B Y
noncomputable def ir:aj->ar->ar->ar:=λ is=>match is with
 |[]=>λ D B=>B
 |i::is=>λ vs B=>match vs with
  |[]=>B
  |v::vs=>ir is vs (B.set i v)
noncomputable def MC(Y:Mem):V->Option ar
 | .tuple vs=>some vs
 |_=>none
noncomputable def isRef(v:V)(k:Nat->Prop):Prop:=match v with
 | .ref i=>k i
 |_=>False
noncomputable def isInt(v:V)(k:Int->Prop):Prop:=match v with
 | .int i=>k i
 |_=>False
noncomputable def isList(o:O)(k:ar->Prop):Prop:=match o with
 | .list vs=>k vs
 |_=>False
noncomputable def Ay(o:O)(k:List (Int×V)->Prop):Prop:=match o with
 | .dict bC _=>k bC
 |_=>False
noncomputable def Fx(o:O)(k:Nat->Nat->Prop):Prop:=match o with
 | .xX l i=>k l i
 |_=>False
theorem wj{v:V}{k:Nat->Prop}{P:Prop}(h:isRef v k)(g:∀i,v= .ref i->k i->P):P:=by induction v using V.casesOn<;>first|exact g _ rfl h|exact h.elim
theorem MD{v:V}{k:Int->Prop}{P:Prop}(h:isInt v k)(g:∀i,v= .int i->k i->P):P:=by induction v using V.casesOn<;>first|exact g _ rfl h|exact h.elim
theorem wk{o:O}{k:ar->Prop}{P:Prop}(h:isList o k)(g:∀vs,o= .list vs->k vs->P):P:=by induction o using O.casesOn<;>first|exact g _ rfl h|exact h.elim
theorem Jf{o:O}{k:List (Int×V)->Prop}{P:Prop}(h:Ay o k)(g:∀bC ep,o= .dict bC ep->k bC->P):P:=by induction o using O.casesOn<;>first|exact g _ _ rfl h|exact h.elim
theorem MF{o:O}{k:Nat->Nat->Prop}{P:Prop}(h:Fx o k)(g:∀l i,o= .xX l i->k l i->P):P:=by induction o using O.casesOn<;>first|exact g _ _ rfl h|exact h.elim
noncomputable def K6(Q:Fl->ar->Mem->Prop)(B:ar)(Y:Mem)(a b e j:Nat)(T is:ar)(bC:List (Int×V)):Prop:=opt T.getLast? λ x=>isInt x λ x=>(short T&&short bC&&(bC.lookup x).isSome&& !decide (a=b))=true/\∀ep,Q .next B ((((Y.set j .dead).set a (.list T.dropLast)).set e (.dict (bC.filter λ N=> !decide (N.1=x)) ep)).set b (.list is.dropLast))
noncomputable def Pl(i st it C:Nat)(Q:Fl->ar->Mem->Prop)(B:ar)(Y:Mem):Prop:=isRef (B.getD st .aF) λ a=>isRef (B.getD it .aF) λ b=>isRef (B.getD C .aF) λ e=>isList (Y.f a) λ T=>isList (Y.f b) λ is=>Ay (Y.f e) λ bC=>opt is.getLast? λ v=>isRef v λ j=>short is=true/\Fx (Y.f j) λ l k=>isList (Y.f l) λ vs=>match vs[k]?with
   |some v=>Q .brk (B.set i v) (Y.set j (.xX l (k+1)))
   |none=>K6 Q B Y a b e j T is bC
noncomputable def RP(h:Option (Nat×V))(B:ar):ar:=match h with
 |none=>B
 |some x=>B.set x.1 x.2
noncomputable def K7(Q:Fl->ar->Mem->Prop)(x:Fl)(B:ar)(Y:Mem):Prop:=match x with
 | .exc _=>False
 |x=>Q x B Y
theorem Pm{Q:Fl->ar->Mem->Prop}{x:Fl}(h:K7 Q x B Y):Q x B Y:=by
 induction x using Fl.casesOn<;>first|exact h.elim|exact h
mutual
noncomputable def wS(J:Cx)(pg:Pg)(d:Nat):MS->(Fl->ar->Mem->Prop)->ar->Mem->Prop
 | .assign ts e,Q,B,Y=>wE J pg d e (λ v Y=>SI J pg d ts v (λ B Y=>Q .next B Y) B Y) B Y
 | .unpack is e,Q,B,Y=>wE J pg d e (λ v Y=>opt (MC Y v) λ vs=>is.length=vs.length/\Q .next (ir is vs B) Y) B Y
 | .aug i op e,Q,B,Y=>got (B.getD i .aF) λ a=>wE J pg d e (λ b Y=>opt (wi Y op a b) λ x=>Q .next (B.set i x.1) x.2) B Y
 | .iX o k op e,Q,B,Y=>wE J pg d o (λ w Y=>match w with
   | .ref i=>match Y.f i with
    | .inst C as=>pg.insts.contains C=true/\opt (as.lookup k) λ a=>got a λ a=>wE J pg d e (λ b Y=>opt (wi Y op a b) λ x=>match x.2.f i with
     | .inst U A=>pg.insts.contains U=true/\k<9/\A.length<=100/\Q .next B (x.2.set i (.inst U (mu A k x.1)))
     |_=>False) B Y
    |_=>False
   |_=>False) B Y
 | .iY o j op e,Q,B,Y=>wE J pg d o (λ w Y=>match w with
   | .ref i=>match Y.f i with
    | .node C vs=>C=pg.sh/\opt vs[j]? λ a=>got a λ a=>wE J pg d e (λ b Y=>opt (wi Y op a b) λ x=>match x.2.f i with
     | .node U T=>U=pg.sh/\j<3/\Q .next B (x.2.set i (.node U (T.set j x.1)))
     |_=>False) B Y
    |_=>False
   |_=>False) B Y
 | .dP t a b,Q,B,Y=>wE J pg d t (λ v Y=>opt (b6 Y v) λ q=>match q with
   |true=>wSs J pg d a Q B Y
   |false=>wSs J pg d b Q B Y) B Y
 | .u5 i e a b,Q,B,Y=>wE J pg d e (λ v Y=>opt (wg v) λ q=>match q with
   |true=>wSs J pg d a Q (B.set i v) Y
   |false=>wSs J pg d b Q (B.set i v) Y) B Y
 | .ft t body H,Q,B,Y=>∃(I:Nat->ar->Mem->Prop)(n:Nat),I n B Y/\∀n B Y,I n B Y->wE J pg d t (λ v Y=>opt (b6 Y v) λ q=>match q with
    |true=>wSs J pg d body (u7 (λ B Y=>∃m,m<n/\I m B Y) Q) B Y
    |false=>wSs J pg d H (K7 Q) B Y) B Y
 | .eR N it body,Q,B,Y=>wE J pg d it (λ vi Y=>opt (jw Y vi) λ x=>
   forLoop (λ v K B Y=>opt (lE x.1 N v B) λ s=>wSs J pg d body K s Y) x.2.2 x.2.1 Q B Y) B Y
 | .oq i it body,Q,B,Y=>wE J pg d it (λ vi Y=>match vi with
   | .ref j=>∃(I:Nat->ar->Mem->Prop)(n:Nat),I n B Y/\∀n B Y,I n B Y->match Y.f j with
    | .qR=>Q .next B Y
    | .dX fa self=>(∃C,pg.insts.contains C=true/\pg.aY C 15=some fa)/\gB J (d-1) (.glob fa) [self] [] [] (λ v Y=>Y.f j= .dX fa self/\match v with
     | .str l=>match l with
      |[]=>Q .next B (Y.set j .qR)
      |a::l=>wSs J pg d body (u7 (λ B Y=>∃m,m<n/\I m B Y) Q) (B.set i (.str (a::l))) Y
     |_=>False) Y
    |_=>False
   |_=>False) B Y
 | .ret e,Q,B,Y=>wE J pg d e (λ v Y=>Q (.ret v) B Y) B Y
 | .expr e,Q,B,Y=>wE J pg d e (λ D Y=>Q .next B Y) B Y
 | .brk,Q,B,Y=>Q .brk B Y
 | .cont,Q,B,Y=>Q .cont B Y
 | .iZ t,Q,B,Y=>wE J pg d t (λ v Y=>opt (b6 Y v) λ q=>q=true/\Q .next B Y) B Y
 | .DB body,Q,B,Y=>wSs J pg d body (K7 Q) B Y
 | .dead,_,_,_=>False
 | .lW i st it z _,Q,B,Y=>Pl i st it z Q B Y
 | .m7 o i op e,Q,B,Y=>wE J pg d o (λ w Y=>wE J pg d i (λ u Y=>opt (gA Y w u) λ a=>got a λ a=>wE J pg d e (λ b Y=>opt (wi Y op a b) λ x=>opt (jd x.2 w u x.1) λ f=>∀ep,Q .next B (f ep)) B Y) B Y) B Y
 | .se g C args,Q,B,Y=>pg.DC.contains C=true/\(∃x,pg.G[g]? =some (x,.glob C))/\wEs J pg d args (λ vs Y=>short vs=true/\Q (.exc C) B Y) B Y
 | .lB o m args,Q,B,Y=>wE J pg d o (λ v Y=>opt (ik pg Y v m) λ x=>wEs J pg d args (λ vs Y=>lB J d x.1 (x.2++vs) (λ D Y=>Q .next B Y) (λ C Y=>Q (.exc C) B Y) Y) B Y) B Y
 | .Fp a g C h,Q,B,Y=>pg.DC.contains C=true/\(∃x,pg.G[g]? =some (x,.glob C))/\wSs J pg d a (λ c B Y=>match c with
   | .exc U=>U=C/\Q .next (RP h B) Y
   |c=>Q c B Y) B Y
noncomputable def wSs(J:Cx)(pg:Pg)(d:Nat):List MS->(Fl->ar->Mem->Prop)->ar->Mem->Prop
 |[],Q,B,Y=>Q .next B Y
 |st::r,Q,B,Y=>wS J pg d st (λ x B Y=>match x with
   | .next=>wSs J pg d r Q B Y
   |x=>Q x B Y) B Y
end
noncomputable def l0{α:Type}(l:List α):Bool:=match l with
 |[]=>true
 |_=>false
theorem mw{α:Type}{l:List α}(h:l0 l=true):l=[]:=by induction l<;>first|rfl|exact nf h
noncomputable def l1{α:Type}(l:List α)(f:α->Bool):Bool:=match l with
 |[]=>false
 |x::r=>match r with
  |[]=>f x
  |_=>false
theorem yA{α:Type}{P:List α->Prop}{f:α->Bool}{l:List α}(h:l1 l f=true)(g:∀x,f x=true->P [x]):P l:=by
 induction l with
 |nil=>exact nf h
 |cons x r=>induction r<;>first|exact g _ h|exact nf h
noncomputable def l2{α:Type}(l:List α)(f:α->α->Bool):Bool:=match l with
 |[]=>false
 |x::r=>l1 r (f x)
theorem Jg{α:Type}{P:List α->Prop}{f:α->α->Bool}{l:List α}(h:l2 l f=true)(g:∀x y,f x y=true->P [x,y]):P l:=by
 induction l with
 |nil=>exact nf h
 |cons x r=>exact yA (P:=λ r=>P (x::r)) h λ y h=>g x y h
noncomputable def cK(e:aP)(kk:Str->Pos->Bool):Bool:=if h:e.ctorIdx=23 then PySem.Expr.Name.elim (motive_1:=λ D=>Bool) e h kk else false
theorem bW{P:aP->Prop}{kk:Str->Pos->Bool}{e:aP}(h:cK e kk=true)(t:∀x p,kk x p=true->P (.Name x p)):P e:=if q:e.ctorIdx=23 then PySem.Expr.Name.elim (motive_1:=λ e=>cK e kk=true->P e) e q t h else nf ((cC q).symm.trans h)
noncomputable def bJ(e:aP)(kk:aP->Str->Pos->Bool):Bool:=if h:e.ctorIdx=20 then PySem.Expr.Attribute.elim (motive_1:=λ D=>Bool) e h kk else false
theorem bG{P:aP->Prop}{kk:aP->Str->Pos->Bool}{e:aP}(h:bJ e kk=true)(t:∀o n p,kk o n p=true->P (.Attribute o n p)):P e:=if q:e.ctorIdx=20 then PySem.Expr.Attribute.elim (motive_1:=λ e=>bJ e kk=true->P e) e q t h else nf ((cC q).symm.trans h)
noncomputable def iu(e:aP)(kk:aP->List aP->List Keyword->Pos->Bool):Bool:=if h:e.ctorIdx=16 then PySem.Expr.Call.elim (motive_1:=λ D=>Bool) e h kk else false
theorem fT{P:aP->Prop}{kk:aP->List aP->List Keyword->Pos->Bool}{e:aP}(h:iu e kk=true)(t:∀g a ks p,kk g a ks p=true->P (.Call g a ks p)):P e:=if q:e.ctorIdx=16 then PySem.Expr.Call.elim (motive_1:=λ e=>iu e kk=true->P e) e q t h else nf ((cC q).symm.trans h)
noncomputable def fU(e:aP)(kk:Const->Nat->Pos->Bool):Bool:=if h:e.ctorIdx=19 then PySem.Expr.Constant.elim (motive_1:=λ D=>Bool) e h kk else false
theorem iw{P:aP->Prop}{kk:Const->Nat->Pos->Bool}{e:aP}(h:fU e kk=true)(t:∀c n p,kk c n p=true->P (.Constant c n p)):P e:=if q:e.ctorIdx=19 then PySem.Expr.Constant.elim (motive_1:=λ e=>fU e kk=true->P e) e q t h else nf ((cC q).symm.trans h)
noncomputable def wm(e:aP)(kk:aP->Operator->aP->Pos->Bool):Bool:=if h:e.ctorIdx=2 then PySem.Expr.BinOp.elim (motive_1:=λ D=>Bool) e h kk else false
theorem B1{P:aP->Prop}{kk:aP->Operator->aP->Pos->Bool}{e:aP}(h:wm e kk=true)(t:∀a o b p,kk a o b p=true->P (.BinOp a o b p)):P e:=if q:e.ctorIdx=2 then PySem.Expr.BinOp.elim (motive_1:=λ e=>wm e kk=true->P e) e q t h else nf ((cC q).symm.trans h)
noncomputable def lF(e:aP)(kk:aP->List CmpOp->List aP->Pos->Bool):Bool:=if h:e.ctorIdx=15 then PySem.Expr.Compare.elim (motive_1:=λ D=>Bool) e h kk else false
theorem pI{P:aP->Prop}{kk:aP->List CmpOp->List aP->Pos->Bool}{e:aP}(h:lF e kk=true)(t:∀a os bs p,kk a os bs p=true->P (.Compare a os bs p)):P e:=if q:e.ctorIdx=15 then PySem.Expr.Compare.elim (motive_1:=λ e=>lF e kk=true->P e) e q t h else nf ((cC q).symm.trans h)
noncomputable def jx(e:aP)(kk:UnaryOp->aP->Pos->Bool):Bool:=if h:e.ctorIdx=3 then PySem.Expr.UnaryOp.elim (motive_1:=λ D=>Bool) e h kk else false
theorem pJ{P:aP->Prop}{kk:UnaryOp->aP->Pos->Bool}{e:aP}(h:jx e kk=true)(t:∀o a p,kk o a p=true->P (.UnaryOp o a p)):P e:=if q:e.ctorIdx=3 then PySem.Expr.UnaryOp.elim (motive_1:=λ e=>jx e kk=true->P e) e q t h else nf ((cC q).symm.trans h)
noncomputable def Az(e:aP)(kk:aP->aP->aP->Pos->Bool):Bool:=if h:e.ctorIdx=5 then PySem.Expr.IfExp.elim (motive_1:=λ D=>Bool) e h kk else false
theorem Jh{P:aP->Prop}{kk:aP->aP->aP->Pos->Bool}{e:aP}(h:Az e kk=true)(A:∀t a b p,kk t a b p=true->P (.IfExp t a b p)):P e:=if q:e.ctorIdx=5 then PySem.Expr.IfExp.elim (motive_1:=λ e=>Az e kk=true->P e) e q A h else nf ((cC q).symm.trans h)
noncomputable def ou(e:aP)(kk:PySem.BoolOp->List aP->Pos->Bool):Bool:=if h:e.ctorIdx=0 then PySem.Expr.BoolOp.elim (motive_1:=λ D=>Bool) e h kk else false
theorem sx{P:aP->Prop}{kk:PySem.BoolOp->List aP->Pos->Bool}{e:aP}(h:ou e kk=true)(t:∀o l p,kk o l p=true->P (.BoolOp o l p)):P e:=if q:e.ctorIdx=0 then PySem.Expr.BoolOp.elim (motive_1:=λ e=>ou e kk=true->P e) e q t h else nf ((cC q).symm.trans h)
noncomputable def d4(e:aP)(kk:aP->aP->Pos->Bool):Bool:=if h:e.ctorIdx=21 then PySem.Expr.Subscript.elim (motive_1:=λ D=>Bool) e h kk else false
theorem d5{P:aP->Prop}{kk:aP->aP->Pos->Bool}{e:aP}(h:d4 e kk=true)(t:∀o i p,kk o i p=true->P (.Subscript o i p)):P e:=if q:e.ctorIdx=21 then PySem.Expr.Subscript.elim (motive_1:=λ e=>d4 e kk=true->P e) e q t h else nf ((cC q).symm.trans h)
noncomputable def AA(e:aP)(kk:Option aP->Option aP->Option aP->Pos->Bool):Bool:=if h:e.ctorIdx=26 then PySem.Expr.Slice.elim (motive_1:=λ D=>Bool) e h kk else false
theorem Ji{P:aP->Prop}{kk:Option aP->Option aP->Option aP->Pos->Bool}{e:aP}(h:AA e kk=true)(A:∀l u t p,kk l u t p=true->P (.Slice l u t p)):P e:=if q:e.ctorIdx=26 then PySem.Expr.Slice.elim (motive_1:=λ e=>AA e kk=true->P e) e q A h else nf ((cC q).symm.trans h)
noncomputable def Fy(e:aP)(kk:List aP->Pos->Bool):Bool:=if h:e.ctorIdx=24 then PySem.Expr.List.elim (motive_1:=λ D=>Bool) e h kk else false
theorem MH{P:aP->Prop}{kk:List aP->Pos->Bool}{e:aP}(h:Fy e kk=true)(t:∀l p,kk l p=true->P (.List l p)):P e:=if q:e.ctorIdx=24 then PySem.Expr.List.elim (motive_1:=λ e=>Fy e kk=true->P e) e q t h else nf ((cC q).symm.trans h)
noncomputable def m8(e:aP)(kk:List aP->Pos->Bool):Bool:=if h:e.ctorIdx=18 then PySem.Expr.JoinedStr.elim (motive_1:=λ D=>Bool) e h kk else false
theorem yB{P:aP->Prop}{kk:List aP->Pos->Bool}{e:aP}(h:m8 e kk=true)(t:∀l p,kk l p=true->P (.JoinedStr l p)):P e:=if q:e.ctorIdx=18 then PySem.Expr.JoinedStr.elim (motive_1:=λ e=>m8 e kk=true->P e) e q t h else nf ((cC q).symm.trans h)
noncomputable def pK(e:aP)(kk:List aP->Nat->Pos->Bool):Bool:=if h:e.ctorIdx=25 then PySem.Expr.Tuple.elim (motive_1:=λ D=>Bool) e h kk else false
theorem wo{P:aP->Prop}{kk:List aP->Nat->Pos->Bool}{e:aP}(h:pK e kk=true)(t:∀l n p,kk l n p=true->P (.Tuple l n p)):P e:=if q:e.ctorIdx=25 then PySem.Expr.Tuple.elim (motive_1:=λ e=>pK e kk=true->P e) e q t h else nf ((cC q).symm.trans h)
noncomputable def Fz(e:aP)(kk:List (Option aP)->List aP->Pos->Bool):Bool:=if h:e.ctorIdx=6 then PySem.Expr.Dict.elim (motive_1:=λ D=>Bool) e h kk else false
theorem MJ{P:aP->Prop}{kk:List (Option aP)->List aP->Pos->Bool}{e:aP}(h:Fz e kk=true)(t:∀a b p,kk a b p=true->P (.Dict a b p)):P e:=if q:e.ctorIdx=6 then PySem.Expr.Dict.elim (motive_1:=λ e=>Fz e kk=true->P e) e q t h else nf ((cC q).symm.trans h)
noncomputable def pL(e:aP)(kk:aP->List Comprehension->Scope->Pos->Bool):Bool:=if h:e.ctorIdx=8 then PySem.Expr.ListComp.elim (motive_1:=λ D=>Bool) e h kk else false
theorem sy{P:aP->Prop}{kk:aP->List Comprehension->Scope->Pos->Bool}{e:aP}(h:pL e kk=true)(t:∀a g sc p,kk a g sc p=true->P (.ListComp a g sc p)):P e:=if q:e.ctorIdx=8 then PySem.Expr.ListComp.elim (motive_1:=λ e=>pL e kk=true->P e) e q t h else nf ((cC q).symm.trans h)
noncomputable def sA(e:aP)(kk:aP->Pos->Bool):Bool:=if h:e.ctorIdx=22 then PySem.Expr.Starred.elim (motive_1:=λ D=>Bool) e h kk else false
theorem pM{P:aP->Prop}{kk:aP->Pos->Bool}{e:aP}(h:sA e kk=true)(t:∀a p,kk a p=true->P (.Starred a p)):P e:=if q:e.ctorIdx=22 then PySem.Expr.Starred.elim (motive_1:=λ e=>sA e kk=true->P e) e q t h else nf ((cC q).symm.trans h)
noncomputable def m9(e:aP)(kk:aP->aP->Pos->Bool):Bool:=if h:e.ctorIdx=1 then PySem.Expr.NamedExpr.elim (motive_1:=λ D=>Bool) e h kk else false
theorem yE{P:aP->Prop}{kk:aP->aP->Pos->Bool}{e:aP}(h:m9 e kk=true)(t:∀a b p,kk a b p=true->P (.NamedExpr a b p)):P e:=if q:e.ctorIdx=1 then PySem.Expr.NamedExpr.elim (motive_1:=λ e=>m9 e kk=true->P e) e q t h else nf ((cC q).symm.trans h)
noncomputable def lY(e:PySem.Stmt)(kk:List aP->aP->Pos->Bool):Bool:=if h:e.ctorIdx=5 then PySem.Stmt.Assign.elim (motive_2:=λ D=>Bool) e h kk else false
theorem oy{P:PySem.Stmt->Prop}{kk:List aP->aP->Pos->Bool}{e:PySem.Stmt}(h:lY e kk=true)(t:∀ts v p,kk ts v p=true->P (.Assign ts v p)):P e:=if q:e.ctorIdx=5 then PySem.Stmt.Assign.elim (motive_2:=λ e=>lY e kk=true->P e) e q t h else nf ((cC q).symm.trans h)
noncomputable def fV(e:PySem.Stmt)(kk:aP->Operator->aP->Pos->Bool):Bool:=if h:e.ctorIdx=7 then PySem.Stmt.AugAssign.elim (motive_2:=λ D=>Bool) e h kk else false
theorem i0{P:PySem.Stmt->Prop}{kk:aP->Operator->aP->Pos->Bool}{e:PySem.Stmt}(h:fV e kk=true)(A:∀t o v p,kk t o v p=true->P (.AugAssign t o v p)):P e:=if q:e.ctorIdx=7 then PySem.Stmt.AugAssign.elim (motive_2:=λ e=>fV e kk=true->P e) e q A h else nf ((cC q).symm.trans h)
noncomputable def RQ(e:PySem.Stmt)(kk:aP->List PySem.Stmt->List PySem.Stmt->Pos->Bool):Bool:=if h:e.ctorIdx=12 then PySem.Stmt.If.elim (motive_2:=λ D=>Bool) e h kk else false
theorem Pn{P:PySem.Stmt->Prop}{kk:aP->List PySem.Stmt->List PySem.Stmt->Pos->Bool}{e:PySem.Stmt}(h:RQ e kk=true)(A:∀t a b p,kk t a b p=true->P (.If t a b p)):P e:=if q:e.ctorIdx=12 then PySem.Stmt.If.elim (motive_2:=λ e=>RQ e kk=true->P e) e q A h else nf ((cC q).symm.trans h)
noncomputable def AB(e:PySem.Stmt)(kk:aP->List PySem.Stmt->List PySem.Stmt->Pos->Bool):Bool:=if h:e.ctorIdx=11 then PySem.Stmt.While.elim (motive_2:=λ D=>Bool) e h kk else false
theorem Jj{P:PySem.Stmt->Prop}{kk:aP->List PySem.Stmt->List PySem.Stmt->Pos->Bool}{e:PySem.Stmt}(h:AB e kk=true)(A:∀t a b p,kk t a b p=true->P (.While t a b p)):P e:=if q:e.ctorIdx=11 then PySem.Stmt.While.elim (motive_2:=λ e=>AB e kk=true->P e) e q A h else nf ((cC q).symm.trans h)
noncomputable def Jk(e:PySem.Stmt)(kk:aP->aP->List PySem.Stmt->List PySem.Stmt->Pos->Bool):Bool:=if h:e.ctorIdx=9 then PySem.Stmt.For.elim (motive_2:=λ D=>Bool) e h kk else false
theorem K9{P:PySem.Stmt->Prop}{kk:aP->aP->List PySem.Stmt->List PySem.Stmt->Pos->Bool}{e:PySem.Stmt}(h:Jk e kk=true)(A:∀t i a b p,kk t i a b p=true->P (.For t i a b p)):P e:=if q:e.ctorIdx=9 then PySem.Stmt.For.elim (motive_2:=λ e=>Jk e kk=true->P e) e q A h else nf ((cC q).symm.trans h)
noncomputable def AD(e:PySem.Stmt)(kk:Option aP->Option aP->Pos->Bool):Bool:=if h:e.ctorIdx=16 then PySem.Stmt.Raise.elim (motive_2:=λ D=>Bool) e h kk else false
theorem Jl{P:PySem.Stmt->Prop}{kk:Option aP->Option aP->Pos->Bool}{e:PySem.Stmt}(h:AD e kk=true)(t:∀v w p,kk v w p=true->P (.Raise v w p)):P e:=if q:e.ctorIdx=16 then PySem.Stmt.Raise.elim (motive_2:=λ e=>AD e kk=true->P e) e q t h else nf ((cC q).symm.trans h)
noncomputable def wq(e:PySem.Stmt)(kk:Option aP->Pos->Bool):Bool:=if h:e.ctorIdx=3 then PySem.Stmt.Return.elim (motive_2:=λ D=>Bool) e h kk else false
theorem FA{P:PySem.Stmt->Prop}{kk:Option aP->Pos->Bool}{e:PySem.Stmt}(h:wq e kk=true)(t:∀v p,kk v p=true->P (.Return v p)):P e:=if q:e.ctorIdx=3 then PySem.Stmt.Return.elim (motive_2:=λ e=>wq e kk=true->P e) e q t h else nf ((cC q).symm.trans h)
noncomputable def u9(e:PySem.Stmt)(kk:aP->Pos->Bool):Bool:=if h:e.ctorIdx=24 then PySem.Stmt.Expr.elim (motive_2:=λ D=>Bool) e h kk else false
theorem AE{P:PySem.Stmt->Prop}{kk:aP->Pos->Bool}{e:PySem.Stmt}(h:u9 e kk=true)(t:∀v p,kk v p=true->P (.Expr v p)):P e:=if q:e.ctorIdx=24 then PySem.Stmt.Expr.elim (motive_2:=λ e=>u9 e kk=true->P e) e q t h else nf ((cC q).symm.trans h)
noncomputable def AF(e:PySem.Stmt)(kk:Pos->Bool):Bool:=if h:e.ctorIdx=26 then PySem.Stmt.Break.elim (motive_2:=λ D=>Bool) e h kk else false
theorem B3{P:PySem.Stmt->Prop}{kk:Pos->Bool}{e:PySem.Stmt}(h:AF e kk=true)(t:∀p,kk p=true->P (.Break p)):P e:=if q:e.ctorIdx=26 then PySem.Stmt.Break.elim (motive_2:=λ e=>AF e kk=true->P e) e q t h else nf ((cC q).symm.trans h)
noncomputable def pN(e:PySem.Stmt)(kk:Pos->Bool):Bool:=if h:e.ctorIdx=27 then PySem.Stmt.Continue.elim (motive_2:=λ D=>Bool) e h kk else false
theorem AG{P:PySem.Stmt->Prop}{kk:Pos->Bool}{e:PySem.Stmt}(h:pN e kk=true)(t:∀p,kk p=true->P (.Continue p)):P e:=if q:e.ctorIdx=27 then PySem.Stmt.Continue.elim (motive_2:=λ e=>pN e kk=true->P e) e q t h else nf ((cC q).symm.trans h)
noncomputable def FC(e:PySem.Stmt)(kk:Pos->Bool):Bool:=if h:e.ctorIdx=25 then PySem.Stmt.Pass.elim (motive_2:=λ D=>Bool) e h kk else false
theorem MK{P:PySem.Stmt->Prop}{kk:Pos->Bool}{e:PySem.Stmt}(h:FC e kk=true)(t:∀p,kk p=true->P (.Pass p)):P e:=if q:e.ctorIdx=25 then PySem.Stmt.Pass.elim (motive_2:=λ e=>FC e kk=true->P e) e q t h else nf ((cC q).symm.trans h)
noncomputable def wt(e:PySem.Stmt)(kk:List aP->Pos->Bool):Bool:=if h:e.ctorIdx=4 then PySem.Stmt.Delete.elim (motive_2:=λ D=>Bool) e h kk else false
theorem FD{P:PySem.Stmt->Prop}{kk:List aP->Pos->Bool}{e:PySem.Stmt}(h:wt e kk=true)(t:∀ts p,kk ts p=true->P (.Delete ts p)):P e:=if q:e.ctorIdx=4 then PySem.Stmt.Delete.elim (motive_2:=λ e=>wt e kk=true->P e) e q t h else nf ((cC q).symm.trans h)
noncomputable def wu(e:PySem.Stmt)(kk:aP->Option aP->Pos->Bool):Bool:=if h:e.ctorIdx=19 then PySem.Stmt.Assert.elim (motive_2:=λ D=>Bool) e h kk else false
theorem FE{P:PySem.Stmt->Prop}{kk:aP->Option aP->Pos->Bool}{e:PySem.Stmt}(h:wu e kk=true)(A:∀t m p,kk t m p=true->P (.Assert t m p)):P e:=if q:e.ctorIdx=19 then PySem.Stmt.Assert.elim (motive_2:=λ e=>wu e kk=true->P e) e q A h else nf ((cC q).symm.trans h)
noncomputable def FF(e:PySem.Stmt)(kk:List PySem.Stmt->List ExceptHandler->List PySem.Stmt->List PySem.Stmt->Pos->Bool):Bool:=if h:e.ctorIdx=17 then PySem.Stmt.Try.elim (motive_2:=λ D=>Bool) e h kk else false
theorem FG{P:PySem.Stmt->Prop}{kk:List PySem.Stmt->List ExceptHandler->List PySem.Stmt->List PySem.Stmt->Pos->Bool}{e:PySem.Stmt}(h:FF e kk=true)(t:∀a L b f p,kk a L b f p=true->P (.Try a L b f p)):P e:=if q:e.ctorIdx=17 then PySem.Stmt.Try.elim (motive_2:=λ e=>FF e kk=true->P e) e q t h else nf ((cC q).symm.trans h)
noncomputable def SJ(kd:List (Str×NameKind))(x:Str):Bool:=isVar (kd.lookup x)
noncomputable def SK(kd:List (Str×NameKind))(x:Str):Bool:=kd.lookup x==some .globalImplicit
noncomputable def ML(c:Const)(v:V):Bool:=match c with
 | .none=>wc v
 | .bool a=>v.bool?==some a
 | .int a=>v.int?==some a
 | .str a=>v.Dn==some a.cps.toList
 | .bytes a=>v.Aj==some (a.map UInt8.toNat)
 |_=>false
structure CC where
 G:List (Str×V)
 kd:List (Str×NameKind)
 nm:List (Str×Nat)
variable{k:CC}
noncomputable def CC.glob(k:CC)(x:Str)(i:Nat):Bool:=SK k.kd x&&(k.G[i]?).any λ g=>g.1==x
noncomputable def CC.var(k:CC)(x:Str)(i:Nat):Bool:=SJ k.kd x&&k.nm.lookup x==some i&& !(x==("__debug__":Str))&& !(x==("__classdict__":Str))
noncomputable def CC.gR(k:CC)(x:Str)(i:Nat):Bool:=k.var x i&&(k.kd.lookup x==some .local||k.kd.lookup x==some .cell)&&k.nm.all (λ p=> !decide (p.2=i)||p.1==x)
noncomputable def yF(k:CC)(is:aj)(e:aP):Bool:=(cK e λ x D=>l1 is λ i=>k.gR x i)||(pK e λ es D D=>l2 es λ a b=>cK a λ x D=>cK b λ y D=>l2 is λ i j=>k.gR x i&&k.gR y j)
theorem FH{is:aj}{e:aP}{P:aj->aP->Prop}(h:yF k is e=true)(f:∀x p i,k.gR x i=true->P [i] (.Name x p))(g:∀x U y T n p i j,k.gR x i=true->k.gR y j=true->P [i,j] (.Tuple [.Name x U,.Name y T] n p)):P is e:=(RI h).elim (λ h=>bW (P:=P is) h λ x p h=>yA (P:=λ is=>P is (.Name x p)) h λ i h=>f x p i h) λ h=>wo (P:=P is) h λ es n p h=>Jg (P:=λ es=>P is (.Tuple es n p)) h λ a b h=>bW (P:=λ a=>P is (.Tuple [a,b] n p)) h λ x U h=>bW (P:=λ b=>P is (.Tuple [.Name x U,b] n p)) h λ y T h=>Jg (P:=λ is=>P is (.Tuple [.Name x U,.Name y T] n p)) h λ i j h=>g x U y T n p i j (ao h).1 (ao h).2
noncomputable def CC.inner(k:CC)(sc:Scope)(own:List (Str×Nat)):CC:={k with kd:=sc.names,nm:=own++k.nm}
noncomputable def oz(e:aP):List Str:=if h:e.ctorIdx=23 then PySem.Expr.Name.elim (motive_1:=λ D=>List Str) e h λ x D=>[x]else[]
noncomputable def MM(e:aP):List Str:=if h:e.ctorIdx=25 then PySem.Expr.Tuple.elim (motive_1:=λ D=>List Str) e h λ es D D=>es.flatMap oz else oz e
noncomputable def dA(is:aj)(e:aP):List (Str×Nat):=(MM e).zip is
noncomputable def jS(k:CC)(sc:Scope)(own:List (Str×Nat)):Bool:=decide (sc.kind= .function)&&decide ((sc.names.map (·.1)).Nodup)&&(k.nm.lookup (".0":Str)).isNone&&sc.names.all λ p=>match p.2 with
  | .local| .cell=>p.1==(".0":Str)||(own.lookup p.1).isSome
  | .free=>(own.lookup p.1).isNone&&(k.kd.lookup p.1==some .cell||k.kd.lookup p.1==some .free)
  | .globalImplicit=>true
  |_=>false
noncomputable def d6(e:aP):Bool:= !iu e λ g a ks D=>cK g (λ D D=>true)&&l0 a&&l0 ks
noncomputable def isSlice(e:aP):Bool:=decide (e.ctorIdx=26)
noncomputable def noStar(e:aP):Bool:= !decide (e.ctorIdx=22)
noncomputable def CC.is(k:CC)(x:Str)(i:Nat)(p:V->Bool):Bool:=k.glob x i&&((k.G[i]?).any λ g=>p g.2)&& !(x==("__debug__":Str))
noncomputable def OD(t:Ty):V->Bool
 | .ty u=>decide (t=u)
 |_=>false
noncomputable def SM(t:Bi):V->Bool
 | .bi u=>decide (t=u)
 |_=>false
noncomputable def SN(c:Const):Bool:=match c with
 | .int i=>i==1
 |_=>false
noncomputable def Po(c:Const)(f:Str->Bool):Bool:=match c with
 | .str e=>f e
 |_=>false
noncomputable def one?(e:aP):Bool:=jx e λ o a D=>decide (o= .USub)&&fU a λ c D D=>SN c
noncomputable def plainT(e:aP):Bool:= !decide (e.ctorIdx=0)&& !decide (e.ctorIdx=5)&& !decide (e.ctorIdx=15)&& !jx e λ o D D=>decide (o= .Not)
noncomputable def FI(m:ME):Bool:=[4,5,21,22,23].contains m.ctorIdx
noncomputable def Jm(v:Nat)(m:ME)(e:aP):Bool:= !(v==1)||FI m||plainT e
mutual
noncomputable def bY(s:Nat)(k:CC)(m:ME)(e:aP):Bool:=match m with
 | .lit v=>fU e λ c D D=>ML c v
 | .var i=>cK e λ x D=>k.var x i
 | .ck i=>cK e λ x D=>k.glob x i&& !(x==("__debug__":Str))
 | .bin op a b=>wm e λ l G r D=>decide (op=G)&&bY 0 k a l&&bY 0 k b r
 | .cmp op a b=>lF e λ l os n D=>l1 os λ G=>l1 n λ r=>decide (op=G)&&bY 0 k a l&&bY 0 k b r&& !behindInMarks G r
 | .pF a C b z c=>lF e λ l os n D=>l2 os λ d I=>l2 n λ m r=>decide (C=d)&&decide (z=I)&&bY 0 k a l&&bY 0 k b m&&bY 0 k c r&& !behindInMarks I r&& !behindInMarks d m
 | .neg a=>jx e λ o x D=>decide (o= .USub)&&bY 0 k a x
 | .EZ t a b=>s==0&&Az e λ A U T D=>(Jm 1 t A&&bY 1 k t A)&&bY 0 k a U&&bY 0 k b T
 | .bor a b=>s==0&&ou e λ o l D=>decide (o= .Or)&&l2 l λ x y=>bY 0 k a x&&bY 0 k b y
 | .call f args ns kws=>iu e λ g as ks D=>(cK g λ D D=>true)&&bY 0 k f g&&fK 0 k args as&&(as.all noStar||kws.isEmpty)&&decide (ks.map (·.arg)=ns.map some)&&fK 0 k kws (ks.map (·.value))&&(ks.map (·.value)).all noStar
 | .star a=>s==0&&sA e λ x D=>bY 0 k a x
 | .aY o m args=>iu e λ g as ks p=>l0 ks&&bJ g λ M name H=>d6 M&&name==ba m&&decide (H.endLine=p.line)&&bY 0 k o M&&fK 0 k args as&&as.all noStar&&decide (as.length<30)
 | .mP o m args=>iu e λ g as ks p=>l0 ks&&bJ g λ M name H=>d6 M&&name==ba m&&bY 0 k o M&&fK 0 k args as&& !as.all noStar
 | .attr o j=>bJ e λ M name D=>d6 M&&decide (j<9)&&name==attrName j&&bY 0 k o M
 | .slot o j=>bJ e λ M name D=>d6 M&&decide (j<3)&&name==d3 j&&bY 0 k o M
 | .sub o i=>d4 e λ M L D=> !isSlice L&&bY 0 k o M&&bY 0 k i L
 | .slice o lo hi=>d4 e λ M i D=>AA i λ l u st D=>st.isNone&&bY 0 k o M&&MN k lo l&&MN k hi u
 | .list _ es=>Fy e λ h D=>fK 0 k es h&&h.all noStar&&decide (h.length<=1000)
 | .tuple es=>pK e λ h D D=>fK 0 k es h&&h.all noStar&&decide (h.length<=1000)
 | .qu=>Fz e λ a b D=>l0 a&&l0 b
 | .comp _ elt N it tests=>pL e λ e E sc D=>l1 E λ g=>decide (g.is_async=0)&&bY 2 k it g.iter&&jS k sc (dA N g.target)&&yF (k.inner sc (dA N g.target)) N g.target&&fK 1 (k.inner sc (dA N g.target)) tests g.ifs&&bY 0 (k.inner sc (dA N g.target)) elt e
 | .uf a=>s==1&&jx e λ o x D=>decide (o= .Not)&&(Jm 1 a x&&bY 1 k a x)
 | .qT es=>s==1&&ou e λ o xs D=>decide (o= .And)&&fK 1 k es xs
 | .Mw es=>s==1&&ou e λ o xs D=>decide (o= .Or)&&fK 1 k es xs
 | .zip i a b=>s==2&&iu e λ g as ks D=>l0 ks&&cK g λ x D=>l2 as λ U T=>k.is x i (OD .zip)&&bY 0 k a U&&bY 0 k b T&&noStar U&&noStar T
 | .range i es=>s==2&&iu e λ g as ks D=>l0 ks&&cK g λ x D=>k.is x i (OD .range)&&fK 0 k es as&&as.all noStar
 | .values o=>s==2&&iu e λ g as ks p=>l0 as&&l0 ks&&bJ g λ M name H=>d6 M&&name==("values":Str)&&decide (H.endLine=p.line)&&bY 0 k o M
 | .dX i o=>iu e λ g as ks D=>l0 ks&&cK g λ x D=>l2 as λ a b=>bJ a λ M name D=>fU b λ c D D=>Po c λ e=>k.is x i (SM .iter)&&d6 M&&name==ba 15&&e.cps.toList==[]&&bY 0 k o M
 | .mulM a b=>wm e λ l G r D=>decide (G= .Mult)&&bY 0 k a l&&bY 0 k b r
 | .Fo a=>m8 e λ vs D=>l1 vs λ v=>bY 0 k a v
 | .r9 i o=>bJ e λ c name D=>iu c λ g as ks D=>l0 ks&&cK g λ x D=>l1 as λ M=>k.is x i (SM .iter)&&name==("__next__":Str)&&bY 0 k o M&&noStar M
noncomputable def fK(v:Nat)(k:CC):List ME->List aP->Bool
 |[],[]=>true
 |m::es,x::xs=>(m.isStar||(noStar x&&Jm v m x))&&bY v k m x&&fK v k es xs
 |_,_=>false
noncomputable def MN(k:CC):Option ME->Option aP->Bool
 |none,none=>true
 |some e,some x=>bY 0 k e x
 |_,_=>false
end
noncomputable def MO(k:CC)(m:ME)(e:aP):Bool:=Jm 1 m e&&bY 1 k m e
noncomputable def MP(k:CC)(g:Ac)(e:aP):Bool:=match g with
 | .var i=>cK e λ x D=>k.gR x i
 | .attr o j=>bJ e λ M name D=>decide (j<9)&&name==attrName j&&bY 0 k o M
 | .slot o j=>bJ e λ M name D=>decide (j<3)&&name==d3 j&&bY 0 k o M
 | .sub o i=>d4 e λ M a D=> !isSlice a&&bY 0 k o M&&bY 0 k i a
noncomputable def qw(k:CC):List Ac->List aP->Bool
 |[],[]=>true
 |t::ts,x::xs=>noStar x&&MP k t x&&qw k ts xs
 |_,_=>false
noncomputable def pO:aP->Bool
 | .ListComp .. | .SetComp .. | .DictComp .. =>true
 |_=>false
noncomputable def B4(e:aP):Bool:= !pK e λ vs D D=>vs.all (constantsAlone 8)
noncomputable def Jn(m:ME):Bool:=decide (m.ctorIdx=20)
theorem Pp{P:ME->Prop}{m:ME}(h:Jn m=true)(f:∀mt elt N it ts,P (.comp mt elt N it ts)):P m:=ME.comp.elim m (ae h) f
noncomputable def oA(k:CC):aj->List aP->Bool:=λ is=>match is with
 |[]=>l0
 |i::is=>λ es=>match es with
  |[]=>false
  |e::es=>(cK e λ x D=>k.gR x i)&&oA k is es
noncomputable def La(s:PySem.Stmt):Bool:=AF s λ D=>true
noncomputable def Pq(c:Const):Bool:=match c with
 | .none=>true
 |_=>false
noncomputable def SO(h:ExceptHandler)(f:aP->PySem.Stmt->PySem.Stmt->Bool):Bool:=match h with
 | .ExceptHandler t n b _=>match t with
  |some z=>n.isNone&&l2 b (f z)
  |none=>false
theorem SP{P:ExceptHandler->Prop}{f:aP->PySem.Stmt->PySem.Stmt->Bool}{e:ExceptHandler}(h:SO e f=true)(g:∀z c d p,f z c d=true->P (.ExceptHandler (some z) none [c,d] p)):P e:=by
 obtain⟨t,n,b,p⟩:=e
 induction t using Option.casesOn with
 |none=>exact nf h
 |some z=>
  have h:=ao h
  exact rQ.mp h.1▸Jg (P:=λ b=>P (.ExceptHandler (some z) none b p)) h.2 λ c d h=>g z c d p h
noncomputable def hX(h:ExceptHandler)(f:aP->PySem.Stmt->Bool):Bool:=match h with
 | .ExceptHandler t n b _=>match t with
  |some z=>n.isNone&&l1 b (f z)
  |none=>false
theorem W2{P:ExceptHandler->Prop}{f:aP->PySem.Stmt->Bool}{e:ExceptHandler}(h:hX e f=true)(g:∀z c p,f z c=true->P (.ExceptHandler (some z) none [c] p)):P e:=by
 obtain⟨t,n,b,p⟩:=e
 induction t using Option.casesOn with
 |none=>exact nf h
 |some z=>
  have h:=ao h
  exact rQ.mp h.1▸yA (P:=λ b=>P (.ExceptHandler (some z) none b p)) h.2 λ c h=>g z c p h
noncomputable def SQ(C:Nat)(v:V):Bool:=match v with
 | .glob a=>decide (C=a)
 |_=>false
noncomputable def FJ(k:CC)(h:Option (Nat×V))(s:PySem.Stmt):Bool:=match h with
 |none=>FC s λ D=>true
 |some x=>lY s λ ts v D=>l1 ts λ t=>(cK t λ y D=>k.gR y x.1)&&fU v λ c D D=>ML c x.2
noncomputable def Jo(k:CC)(v:Nat)(e:aP):Bool:=iu e λ f as ks j=>l0 as&&l0 ks&&bJ f λ o n H=>n==ba 1&&decide (H.endLine=j.line)&&cK o λ y D=>k.var y v
noncomputable def MQ(k:CC)(C st:Nat)(c:PySem.Stmt):Bool:=wt c λ ts D=>l1 ts λ t=>d4 t λ o i D=>(cK o λ u D=>k.var u C)&&Jo k st i
noncomputable def Pr(k:CC)(i it:Nat)(s:PySem.Stmt):Bool:=lY s λ ts v D=>l1 ts λ t=>cK t λ x D=>k.gR x i&&iu v λ f as ks D=>l0 as&&l0 ks&&d4 f λ o e D=>(cK o λ y D=>k.var y it)&&one? e
mutual
noncomputable def Jp(k:CC)(m:MS)(s:PySem.Stmt):Bool:=match m with
 | .assign ts e=>lY s λ w v D=>qw k ts w&&bY 0 k e v&&(!pO v||Jn e)
 | .unpack ts e=>lY s λ I v D=>l1 I λ t=>pK t λ w D D=>oA k ts w&&bY 0 k e v&&decide ts.Nodup&&B4 v
 | .aug i op e=>fV s λ t G v D=>cK t λ x D=>k.gR x i&&decide (op=G)&&bY 0 k e v
 | .iX o j op e=>fV s λ t G v D=>bJ t λ M name D=>decide (j<9)&&name==attrName j&&bY 0 k o M&&decide (op=G)&&bY 0 k e v
 | .iY o j op e=>fV s λ t G v D=>bJ t λ M name D=>decide (j<3)&&name==d3 j&&bY 0 k o M&&decide (op=G)&&bY 0 k e v
 | .dP t a b=>RQ s λ n U y D=>(Jm 1 t n&&bY 1 k t n)&&fQ k a U&&fQ k b y
 | .u5 i e a b=>RQ s λ n U y D=>lF n λ l os A D=>l1 os λ p=>l1 A λ q=>m9 l λ g v D=>cK g λ x D=>fU q λ c D D=>decide (p= .Is)&&Pq c&&k.gR x i&&bY 0 k e v&&fQ k a U&&fQ k b y
 | .ft t a b=>AB s λ n U y D=>(Jm 1 t n&&bY 1 k t n)&&fQ k a U&&fQ k b y
 | .eR u it a=>Jk s λ n N U b D=>l0 b&&yF k u n&&bY 2 k it N&&fQ k a U
 | .oq i it a=>Jk s λ n N U b D=>l0 b&&cK n λ x D=>k.gR x i&&bY 0 k it N&&fQ k a U
 | .ret e=>wq s λ v D=>v.any (bY 0 k e)
 | .expr e=>u9 s λ v D=>bY 0 k e v&& !pO v
 | .brk=>La s
 | .cont=>pN s λ D=>true
 | .iZ t=>wu s λ n D D=>(Jm 1 t n&&bY 1 k t n)
 | .DB a=>FF s λ U L b f D=> !L.isEmpty&&l0 b&&l0 f&&fQ k a U
 | .m7 o i op e=>fV s λ t G v D=>d4 t λ M N D=>(cK N λ D D=>true)&&bY 0 k o M&&bY 0 k i N&&decide (op=G)&&bY 0 k e v
 | .se g C args=>AD s λ e x D=>x.isNone&&e.any λ e=>iu e λ f as ks D=>l0 ks&&cK f λ x D=>k.glob x g&& !(x==("__debug__":Str))&&fK 0 k args as&&as.all noStar
 | .lB o m args=>u9 s λ e D=>iu e λ g as ks p=>l0 ks&&bJ g λ M name H=>d6 M&&name==ba m&&decide (H.endLine=p.line)&&bY 0 k o M&&fK 0 k args as&&as.all noStar&&decide (as.length<30)
 | .Fp a g C h=>FF s λ U L b f D=>l0 b&&l0 f&&fQ k a U&&l1 L λ T=>hX T λ z b=>(cK z λ z D=>k.is z g (SQ C))&&FJ k h b
 | .dead=>true
 | .lW i st it E g=>FF s λ body L r fin D=>l0 r&&l0 fin&&l2 body (λ a b=>La b&&Pr k i it a)&&l1 L λ h=>SO h λ z c d=>(cK z λ z D=>k.is z g (OD .ll))&&(MQ k E st c&&u9 d λ e D=>Jo k it e)
noncomputable def fQ(k:CC):List MS->List PySem.Stmt->Bool
 |[],[]=>true
 |s::T,t::ts=>Jp k s t&&fQ k T ts
 |_,_=>false
end
noncomputable def B5:aL:=[.type "ValueError",.type "Exception",.type "BaseException",.type "object"]
inductive FK(K:Frag)(C:Addr):Prop
 |mk (nm q:Str) (N:Addr) (bs:aL) (hdct:Bool) (sn:List Str) (sub:aL) (ab:Bool) (col:Option Bool) (dd:Option Addr) (k0 k1 k2 k3 k5:Option Value) (hC:K.lookup C=some (excClassObj nm q C N bs B5 hdct sn sub ab col dd k0 k1 k2 k3 k5 "ValueError.__new__")) (hN:nsOkIn K N=true) (hi:nsIn K N "__init__"=some none):FK K C
structure cM(J:Cx)(pg:Pg):Prop where
 exc:∀C,pg.DC.contains C=true->FK J.K C
 glob:∀(k:Nat) x v,pg.G[k]? =some (x,v)->∀c s,Rel J c s->∀(A:Around)(E:dR)(Q:dR),(∀y,aD c s.heap v y->Q y s)->∀env:Env,env.globals=mainGlobals->env.builtins=builtinsNs->wpAny J.ax A (loadGlobal env x) Q E s
 inst:∀C,pg.insts.contains C=true->rY J.K C
 node:wh J.K pg.sh
 aY:∀C m fa,pg.aY C m=some fa->pg.insts.contains C=true->findIn J.K (.ref C) (ba m)=some (some (.ref fa))/\typeIn J.K (.ref fa)=some (.type "function")/\(∀k,k<9->attrName k≠ba m)/\fnIn J.K fa=true/\specialIn J.K (.ref fa) "__get__"=some (some (.builtin "function.__get__"))/\takesIn J.K (.ref fa)=some false/\copiedNames.contains (ba m)=false
structure SU(k:CC)(env:Env):Prop where
 v:∀x,isVar (k.kd.lookup x)=true->isVar (env.kindOf x)=true
 g:∀x,k.kd.lookup x=some .globalImplicit->env.kindOf x=some .globalImplicit
 l:∀x,k.kd.lookup x=some .local->env.kindOf x=some .local
 c:∀x,k.kd.lookup x=some .cell->env.kindOf x=some .cell
 f:∀x,k.kd.lookup x=some .free->env.kindOf x=some .free\/env.kindOf x=some .cell
structure At(J:Cx)(pg:Pg)(d:Nat)(k:CC)(B:ar)(Y:Mem)(A:Around)(c:Vw)(s:Shared)(env:Env):Prop where
 rm:ja d A
 sg:c.Y=Y
 rl:Rel J c s
 en:uR J c env s.heap
 kd:SU k env
 fv:BR c env k.nm B s.heap
 gg:k.G=pg.G
 sk:vZ A c
theorem At.step{c G:Vw}{s s':Shared}(T:At J pg d k B Y A c s env)(S:Step J c s G s' cZ):At J pg d k B G.Y A G s' env:=⟨T.rm,rfl,S.rel,T.en.step T.rl S λ D D h=>h,T.kd,T.fv.step T.en T.rl S ⟨λ h=>h,λ D D D h=>h⟩,T.gg,T.sk.step S⟩
noncomputable def aI(J:Cx)(pg:Pg)(d:Nat)(m:ME):Prop:=∀(k:CC)(e:aP)(Q:eY)(B:ar)(Y:Mem)(A:Around)(E:dR)(c:Vw)(s:Shared)(env:Env),bY 0 k m e=true->wE J pg d m Q B Y->At J pg d k B Y A c s env->bL J A E c s (eval e env) Q
noncomputable def eS(J:Cx)(pg:Pg)(d:Nat)(m:ME):Prop:=∀(k:CC)(e:aP)(Q:Bool->Mem->Prop)(B:ar)(Y:Mem)(A:Around)(E:dR)(c:Vw)(s:Shared)(env:Env),MO k m e=true->wE J pg d m (λ v Y=>opt (b6 Y v) λ b=>Q b Y) B Y->At J pg d k B Y A c s env->yi J A E c s (PySem.isTrue e env (eval e env)) Q
theorem de{α:Type}{x:Option α}{Q:α->Prop}{P:Prop}(h:opt x Q)(g:∀a,x=some a->Q a->P):P:=by cases x with|none=>exact h.elim|some a=>exact g a rfl h
theorem jT{v:V}{Q:V->Prop}(h:got v Q):v≠.aF/\Q v:=by induction v using V.casesOn<;>first|exact⟨nofun,h⟩|exact h.elim
theorem DD{v:V}(h:wc v=true):v= .none:=by induction v using V.casesOn<;>first|rfl|exact nf h
theorem FL(x:List UInt8):bP (x.map UInt8.toNat)=x.toArray:=by
 delta bP;rw[fN]
 have:UInt8.ofNat∘UInt8.toNat=id:=by funext z;simp
 rw[this,List.map_id]
theorem qx{cst:Const}{v:V}(R:Rel J c s)(h:ML cst v=true)(w:Q v c.Y):bL J A E c s (constValue env cst) Q:=by
 induction cst using PySem.Const.casesOn with
 |none=>rw[DD h]at w;exact bL.val (v:= .none) R rfl w
 |bool x=>rw[V.rU (bh h)]at w;exact bL.val (v:= .bool x) R rfl w
 |int x=>rw[V.gh (bh h)]at w;exact wpAny_mkInt ⟨c,.int x,Step.toks R _,⟨s.toks,rfl⟩,w⟩
 |str x=>rw[V.n7 (bh h)]at w;exact wpAny_mkText ⟨c,.str x.cps.toList,Step.toks R _,⟨s.toks,rfl⟩,w⟩
 |bytes x=>
  rw[V.uV (bh h)]at w
  refine ag (wpAny_fresh (aA ⟨c,.bytes (x.map UInt8.toNat),Step.toks R _,⟨λ y j=> ?_,s.toks,aE (Value.bytes · _) ?_⟩,w⟩))
  ·obtain⟨z,D,rfl⟩:=cQ.mp j;exact z.toNat_lt
  ·exact(FL x).symm
 |_=>exact nf h
theorem Pt(v:V):aI J pg d (.lit v):=by
 intro k e Q B Y A E c s env h w T
 refine iw (P:=λ e=>bL J A E c s (eval e env) Q) h λ cst n p h=> ?_
 rw[<-T.sg]at w
 exact qx T.rl h w
theorem CC.wx{x:Str}{i:Nat}(h:k.var x i=true):isVar (k.kd.lookup x)=true/\k.nm.lookup x=some i/\(x==("__debug__":Str))=false/\(x==("__classdict__":Str))=false:=have M:=ao h
 have u:=ao M.1
 have r:=ao u.1
 ⟨r.1,bh r.2,i9 u.2,i9 M.2⟩
theorem yG{x:Str}{i:Nat}{v:V}{Q:dR}(T:At J pg d k B Y A c s env)(h:k.var x i=true)(n:B.getD i .aF=v)(l:v≠.aF)(q:∀y,aD c s.heap v y->Q y s):wpAny J.ax A (loadName env x) Q E s:=by
 obtain⟨M,H,a,g⟩:=CC.wx h
 have hi:B[i]? =some v:=by
  rw[kX]at n
  cases e:B[i]?with
  |none=>rw[e]at n;exact absurd n.symm l
  |some w=>rw[e]at n;exact aE some n
 rcases T.fv x i v H (T.kd.v x M) hi with z|⟨u,V,r⟩
 ·exact absurd z l
 ·exact lr T.en.kind V g (q u r)
theorem Pu(i:Nat):aI J pg d (.var i):=by
 intro k e Q B Y A E c s env h w T
 refine bW (P:=λ e=>bL J A E c s (eval e env) Q) h λ x p h=> ?_
 have w:=jT (v:=B.getD i .aF) w
 rw[<-T.sg]at w
 exact wpAny_Name (yG T h rfl w.1 λ y r=>⟨c,_,.refl T.rl,r,w.2⟩) (CC.wx h).2.2.1
theorem vc(e:cM J pg){x:Str}{i:Nat}{Q:dR}(T:At J pg d k B Y A c s env)(h:k.glob x i=true){g:Str×V}(U:pg.G[i]? =some g)(q:∀y,aD c s.heap g.2 y->Q y s):wpAny J.ax A (loadName env x) Q E s:=by
 have h:=ao h
 have u:=h.2
 rw[T.gg,U]at u
 exact loadName_read T.en.kind (T.kd.g x (bh h.1))▸e.glob i x g.2 (by exact U.symm▸(show g.1=x from bh u)▸rfl) c s T.rl A E Q q env T.en.glob T.en.Mj
theorem Pw(U:cM J pg)(i:Nat):aI J pg d (.ck i):=by
 intro k e Q B Y A E c s env h w T
 refine bW (P:=λ e=>bL J A E c s (eval e env) Q) h λ x p h=> ?_
 refine de w λ g M w=> ?_
 rw[<-T.sg]at w
 exact wpAny_Name (vc U T (ao h).1 M λ y r=>⟨c,g.2,.refl T.rl,r,w⟩) (i9 (ao h).2)
theorem two{a b:ME}{l r:aP}(z:aI J pg d a)(U:aI J pg d b)(T:At J pg d k B Y A c s env)(M:bY 0 k a l=true)(G:bY 0 k b r=true){P:V->eY}(w:wE J pg d a (λ va Y=>wE J pg d b (λ vb Y=>P va vb Y) B Y) B Y){Q:Value->dR}(q:∀x y h c₂ va vb,Step J c s c₂ h cZ->aD c₂ h.heap va x->aD c₂ h.heap vb y->P va vb c₂.Y->Q x y h):wpAny J.ax A (eval l env) (λ x p=>wpAny J.ax A (eval r env) (λ y h=>Q x y h) E p) E s:=(z k l _ B Y A E c s env M w T).go λ x p c₁ va i v e=>(U k r _ B c₁.Y A E c₁ p env G e (T.step i)).go λ y h c₂ vb o N I=>q x y h c₂ va vb (i.trans o) (v.carry o.carry) N I
theorem Px(op:Operator){a b:ME}(z:aI J pg d a)(U:aI J pg d b):aI J pg d (.bin op a b):=by
 intro k e Q B Y A E c s env h w T
 refine B1 (P:=λ e=>bL J A E c s (eval e env) Q) h λ l G r p h=> ?_
 have h:=ao h
 have M:=ao h.1
 exact(show op=G from ae M.1)▸wpAny_BinOp (two z U T M.2 h.2 w λ x y N c₂ va vb S r1 r2 o=>de o λ v n q=>(Dy S.rel r1 r2 n q).after S)
theorem At.units(T:At J pg d k B Y A c s env):A.units+10<cLine:=by have:=T.rm.2.2;refine(?_:A.units+10<9900);omega
theorem B6{P:aP->Prop}{v:Nat}{op:CmpOp}{a b:ME}{e:aP}(h:bY v k (.cmp op a b) e=true)(f:∀l r p,bY 0 k a l=true->bY 0 k b r=true->behindInMarks op r=false->P (.Compare l [op] [r] p)):P e:=pI h λ l os m p h=>yA (P:=λ os=>P (.Compare l os m p)) h λ o h=>yA (P:=λ m=>P (.Compare l [o] m p)) h λ r h=>by
  have h:=ao h
  have M:=ao h.1
  have u:=ao M.1
  have e:=ae u.1
  subst e
  exact f l r p u.2 M.2 (i9 h.2)
theorem Lb(ok:bA J)(op:CmpOp){a b:ME}(z:aI J pg d a)(U:aI J pg d b):aI J pg d (.cmp op a b):=λ k e Q B Y A E c s env h w T=>B6 (P:=λ e=>bL J A E c s (eval e env) Q) h λ l r p M G hm=>wpAny_Compare1 (two z U T M G w λ x y N c₂ va vb S r1 r2 o=>de o λ v n q=>(lV S.rel ok.sys T.units r1 r2 n q).after S) hm
theorem yH{P:aP->Prop}{v:Nat}{U c:CmpOp}{a b e:ME}{ex:aP}(h:bY v k (.pF a U b c e) ex=true)(f:∀l m r p,bY 0 k a l=true->bY 0 k b m=true->bY 0 k e r=true->behindInMarks c r=false->P (.Compare l [U,c] [m,r] p)):P ex:=pI h λ l os n p h=>Jg (P:=λ os=>P (.Compare l os n p)) h λ d o h=>Jg (P:=λ n=>P (.Compare l [d,o] n p)) h λ m r h=>by
  have h:=ao (ao h).1
  have M:=ao h.1
  have u:=ao M.1
  have Q:=ao u.1
  have g:=ao Q.1
  refine(show U=d from ae g.1)▸(show c=o from ae g.2)▸?_
  have e:=ae g.2
  subst e
  exact f l m r p Q.2 u.2 M.2 (i9 h.2)
theorem ug{l:aP}{M:CmpOp}{m:aP}{U:CmpOp}{r:aP}{p:Pos}(h:behindInMarks U r=false):eval (.Compare l [M,U] [m,r] p) env=(do
  let a<-eval l env;let b<-holding [a] (eval m env);standAt p;let c<-holding [a,b] (compareOp M a b);release [a,b] [c]
  if<-holding [c,b] (truthy c)then(do let e<-holding [b] (eval r env);standAt p;operate [b,e] (compareOp U b e))else pure c):=by
 refine(markedBehindIn_of_false (t:=eval r env) h)▸?_
 rfl
theorem FN(ok:bA J){a b e:ME}(N I:CmpOp)(f:aI J pg d a)(L:aI J pg d b)(he:aI J pg d e):aI J pg d (.pF a N b I e):=by
 intro k ex Q B Y A E c s env h w T
 refine yH (P:=λ e=>bL J A E c s (eval e env) Q) h λ l m r p C n j hm=> ?_
 refine(ug hm).symm▸?_
 refine ag (aV (two f L T C n w (Q:=λ x y U=>_) λ x y U c₂ va vb S r1 r2 o=> ?_) (λ x aq t=>ag (bX (aV t (λ y U hy=>hy) λ D D z=>z))) λ D D z=>z)
 refine de o λ q hq o=>ag (c7 (ag (bX ((lV (Q:=λ v Y=>v= .bool q/\Y=c₂.Y) S.rel ok.sys T.units r1 r2 hq ⟨rfl,rfl⟩).go λ z bx H v g M G=> ?_))))
 refine(show z= .bool q by rw[G.1]at M;exact M).symm▸?_
 rw[<-G.2]at o
 refine ag (wpAny_release (ag (bX (wpAny_truthy_bool ?_))))
 induction q using Bool.casesOn with
 |false=>exact aA ⟨H,.bool false,S.trans g,rfl,o⟩
 |true=>exact ag (bX ((he k r _ B H.Y A E H bx env j o ((T.step S).step g)).go λ u jU sC ve i yI uh=>de uh λ v hv q=>
   ag (c7 (wpAny_operateT ((lV i.rel ok.sys T.units ((r2.carry g.carry).carry i.carry) yI hv q).after ((S.trans g).trans i))))))
theorem Py{a:ME}(z:aI J pg d a):aI J pg d (.neg a):=by
 intro k e Q B Y A E c s env h w T
 refine pJ (P:=λ e=>bL J A E c s (eval e env) Q) h λ op x p h=> ?_
 have h:=ao h
 refine(ae h.1).symm▸?_
 refine ag ((z k x _ B Y A E c s env h.2 w T).go λ y m c₁ v S r q=>ag (c7 (bX ?_)))
 refine SE (P:=λ v=>aD c₁ m.heap v y->_) q (λ i q r=> ?_) r
 obtain⟨t,rfl⟩:=r
 exact neg_int ⟨c₁,.int (-i),S.trans (Step.toks S.rel _),⟨_,rfl⟩,q⟩
theorem Pz{o i:ME}(m:aI J pg d o)(hi:aI J pg d i):aI J pg d (.sub o i):=by
 intro k e Q B Y A E c s env h w T
 refine d5 (P:=λ e=>bL J A E c s (eval e env) Q) h λ M b p h=> ?_
 have h:=ao h
 refine og (P':=λ D D D=>True) (m k M _ B Y A E c s env (ao h.1).2 w T) λ x v c₁ f S r U=> ?_
 refine(hi k b _ B c₁.Y A E c₁ f env h.2 U (T.step S)).go λ y H c₂ u a G N=>de N λ z I q=> ?_
 have g:=u0 (A:=A) (E:=E) (Q:=Q) a.rel (r.carry a.carry) G I q
 exact⟨c₂,a,g.1,g.2⟩
theorem oB{o:aP}{attr:Str}{whole:Sem Value}(h:d6 o=true):attributeBase o attr env whole=whole:=by
 induction o using PySem.Expr.casesOn with
 |Call g as ks p=>induction g using PySem.Expr.casesOn with
  |Name x p=>induction as with
   |nil=>induction ks with
    |nil=>exact nf h
    |cons=>rfl
   |cons=>rfl
  |_=>rfl
 |_=>rfl
theorem oC{o:aP}{attr:Str}{p:Pos}{Q P:eY}(L:d6 o=true)(h:bL J A E c s (eval o env) P)(k:∀x v c₁ w,Step J c s c₁ w cZ->aD c₁ w.heap v x->P v c₁.Y->bL J A E c₁ w (getAttr x attr true) Q):bL J A E c s (eval (.Attribute o attr p) env) Q:=by
 rw[arm_eval_Attribute,oB L]
 exact ag (h.go λ x w c₁ v S r q=>ag (c7 (ag (bX (aV ((k x v c₁ w S r q).after S) (λ y U j=>ag (wpAny_letTemporaryGo (aA j))) λ D D z=>z)))))
theorem MR(ok:bA J)(U:cM J pg){o:ME}(j:Nat)(m:aI J pg d o):aI J pg d (.attr o j):=by
 intro k e Q B Y A E c s env h w T
 refine bG (P:=λ e=>bL J A E c s (eval e env) Q) h λ M n p h=> ?_
 have h:=ao h
 have l:=ao h.1
 have H:=ao l.1
 refine(bh l.2).symm▸?_
 refine oC H.1 (m k M _ B Y A E c s env h.2 w T) λ x v c₁ f S r q=>sj (P:=λ v=>aD c₁ f.heap v x->_) q (λ i q r=>instP q λ C as e q=>de q.2 λ u a b=> ?_) r
 exact r.2▸r6 S.rel ok r.1 e (U.inst C q.1) (ae H.2) a (jT b).2
theorem MT(ok:bA J)(U:cM J pg){o:ME}(j:Nat)(m:aI J pg d o):aI J pg d (.slot o j):=by
 intro k e Q B Y A E c s env h w T
 refine bG (P:=λ e=>bL J A E c s (eval e env) Q) h λ M n p h=> ?_
 have h:=ao h
 have l:=ao h.1
 have H:=ao l.1
 refine(bh l.2).symm▸?_
 refine oC H.1 (m k M _ B Y A E c s env h.2 w T) λ x v c₁ f S r q=>sj (P:=λ v=>aD c₁ f.heap v x->_) q (λ i q r=>BZ q λ C as e q=>de q.2 λ u b a=> ?_) r
 exact r.2▸get_node S.rel ok r.1 (by exact e.symm▸q.1.symm▸rfl) U.node (ae H.2) b (jT a).1 (jT a).2
theorem Jq:aI J pg d .qu:=by
 intro k e Q B Y A E c s env h w T
 refine MJ (P:=λ e=>bL J A E c s (eval e env) Q) h λ a b p h=> ?_
 refine(mw (ao h).1).symm▸(mw (ao h).2).symm▸?_
 rw[<-T.sg]at w
 have S:=T.rl.new (s':={s with heap:=s.heap.push {cls:= .type "dict",data:= .dict #[]}}) s.heap.objs.size [s.heap.objs.size] [] (.dict [] 0) (λ D D e=>bt _ e)
  (by refine(?_:_<=(s.heap.push _).objs.size);rw[cf];exact au _ _) rfl rfl (λ b U=>by replace U:=cR.mp U;subst U;exact⟨ai _,by refine(?_:_<(s.heap.push _).objs.size);rw[cf];exact bF _⟩) (λ b U=>by exact absurd U dt)
  λ g=>⟨rfl,[],⟨_,#[],bM _ rfl,⟨rfl,rfl,rfl⟩,rfl,(λ e he=>by simp at he),.nil,List.nodup_nil⟩,trivial⟩
 show wpAny _ _ (standAt p>>=λ D=>newDict) _ _ _
 exact ag (c7 (nV ⟨_,.ref c.Y.n,S,⟨bF _,aE Value.ref (aw rfl).symm⟩,w⟩ (dF _)))
theorem yJ(h:Heap)(a:Addr)(f:Obj->Obj):(h.update a f).objs.size=h.objs.size:=by
 simp[Heap.update]
theorem Runs.grow{M:Model}{x:Ctx}{p:Pos}{t:Sem Fin}{fs:List Frame}{s s':Shared}{e:End}(h:Runs M x p t fs s e s'):s.heap.objs.size<=s'.heap.objs.size:=by
 induction h with
 |done|raise|yield=>exact ai _
 |update _ _ y=>rw[<-yJ];exact y
 |alloc _ y=>exact aa (by rw[cf];exact dC _) y
 |call _ _ i j=>exact aa i j
 |resumeFresh _ _ _ _ i j=>exact aa i j
 |resumeSuspended _ _ _ _ i j=>exact aa i j
 |segRet _ _ i j=>exact aa i j
 |segGen _ _ i j=>exact aa i j
 |segSuspGen _ _ _ _ i j=>exact aa i j
 |_=>assumption
theorem Jr{α:Type}{M:Model}{x:Ctx}(t:Sem α){Q:α->Pos->Shared->Prop}{E:Value->Pos->Shared->Prop}(n:Nat):∀{p:Pos}{s:Shared},n<=s.heap.objs.size->Sem.wp M x t (λ a d s'=>n<=s'.heap.objs.size->Q a d s') (λ e d s'=>n<=s'.heap.objs.size->E e d s') p s->Sem.wp M x t Q E p s:=by
 induction t with
 |pure a=>intro p s w h;exact h w
 |raise a=>intro p s w h;exact h w
 |load a _ k y=>intro p s w ⟨o,e,h⟩;exact⟨o,e,y o w h⟩
 |update a _ f k y=>intro p s w ⟨e,h⟩;exact⟨e,y () (by refine(?_:n<=(s.heap.update a f).objs.size);rw[yJ];exact w) h⟩
 |alloc o k y=>intro p s w h;exact y _ (by refine(?_:n<=(s.heap.push o).objs.size);rw[cf];exact qp w) h
 |choose src m k y=>intro p s w ⟨e,h⟩;exact⟨e,y _ w h⟩
 |call c q _ _ k y=>intro p s w ⟨r,s',b,h⟩;exact⟨r,s',b,y r (aa w (Runs.grow b)) h⟩
 |genState g k y=>intro p s w ⟨st,e,h⟩;exact⟨st,e,y _ w h⟩
 |resume g r _ k y=>
  intro p s w ⟨res,s',j,h⟩
  refine⟨res,s',j,y res (aa w ?_) h⟩
  unfold Wakes at j
  split at j
  ·exact j.elim
  ·split at j
   ·obtain⟨l,A,b,D,D,rfl⟩:=j;exact(Runs.grow b:(s.setGen g .running).heap.objs.size<=A.heap.objs.size)
   ·obtain⟨D,rfl⟩:=j;exact ai _
   ·obtain⟨D,rfl⟩:=j;exact ai _
  ·obtain⟨l,A,b,D,D,rfl⟩:=j;exact(Runs.grow b:(s.setGen g .running).heap.objs.size<=A.heap.objs.size)
  ·obtain⟨D,rfl⟩:=j;exact ai _
  ·obtain⟨D,rfl⟩:=j;exact ai _
 |unsupported _=>intro p s w h;exact h
 |finish _=>intro p s w h;exact h
 |register _ _ _=>intro p s w h;exact h
 |yield _ _ _ _ _=>intro p s w h;exact h
 |fork _ _ _=>intro p s w h;exact h
 |await _ _ _ _ _ _=>intro p s w h;exact h
 |rule _ k y=>intro p s w h;exact y () w h
 |«at» _ k y=>intro p s w h;exact y () w h
 |point _ k y=>intro p s w h;exact y () w h
 |loadIfAlive _ k y=>intro p s w h;exact y _ w h
 |fresh k y=>intro p s w h;exact y _ w h
 |ask k y=>intro p s w h;exact y _ w h
 |os _ _ k y=>intro p s w h;exact y _ w h
 |handled _ k y=>intro p s w h;exact y _ w h
 |newGen _ k y=>intro p s w h;exact y _ w h
 |stack k y=>intro p s w h;exact y _ w h
 |thread k y=>intro p s w h;exact y _ w h
theorem AH{α:Type}{M:Model}{t:Sem α}{Q:α->Shared->Prop}(h:wpAny M A t (λ a s'=>s.heap.objs.size<=s'.heap.objs.size->Q a s') (λ e s'=>s.heap.objs.size<=s'.heap.objs.size->E e s') s):wpAny M A t Q E s:=λ x p C=>Jr t _ (ai _) (h x p C)
theorem aW{α:Type}{M:Model}{t:Sem α}{Q:α->Shared->Prop}(h:∀u:dR,wpAny M A t (λ a s'=>s.heap.objs.size<=s'.heap.objs.size->Q a s') u s):wpAny M A t Q E s:=AH (h _)
inductive jz(J:Cx)(c:Vw)(s:Shared)(Q:ar->Mem->Prop)(N:Nat->Prop)(vals:aL)(s':Shared):Prop
 |mk (c':Vw) (vs:ar) (S:Step J c s c' s' cZ) (r:ay c' s'.heap vs vals) (q:Q vs c'.Y) (n:N vs.length):jz J c s Q N vals s'
theorem jz.go{t:Sem aL}{Q:ar->Mem->Prop}{N:Nat->Prop}{P:aL->Shared->Prop}(h:wpAny J.ax A t (jz J c s Q N) E s)(f:∀xs s' G vs,Step J c s G s' cZ->ay G s'.heap vs xs->Q vs G.Y->N vs.length->P xs s'):wpAny J.ax A t P E s:=aV h (λ x s' ⟨G,vs,S,r,q,n⟩=>f x s' G vs S r q n) λ D D z=>z
noncomputable def cW(J:Cx)(pg:Pg)(d:Nat)(ms:List ME):Prop:=∀(k:CC)(xs:List aP)(pos:Pos)(Q:ar->Mem->Prop)(B:ar)(Y:Mem)(A:Around)(E:dR)(c:Vw)(s:Shared)(env:Env),fK 0 k ms xs=true->wEs J pg d ms Q B Y->At J pg d k B Y A c s env->wpAny J.ax A (spliced (backTo pos (starEach xs env))) (jz J c s Q λ n=>xs.all noStar=true->n=xs.length) E s
theorem yK{e:aP}{rest:List aP}(h:noStar e=true):starEach (e::rest) env=(false,eval e env)::starEach rest env:=by
 induction e using PySem.Expr.casesOn<;>first|rfl|exact nf h
theorem sD{e:ME}{es:List ME}{Q:ar->Mem->Prop}(h:e.isStar=false):wEs J pg d (e::es) Q B Y=wE J pg d e (λ v Y=>wEs J pg d es (λ ws Y=>Q (v::ws) Y) B Y) B Y:=by
 induction e using ME.casesOn<;>first|rfl|exact nf h.symm
theorem B7{v:Nat}{e:ME}{es:List ME}{x:aP}{xs:List aP}(h:e.isStar=false):fK v k (e::es) (x::xs)=((noStar x&&Jm v e x)&&bY v k e x&&fK v k es xs):=by
 refine(?_:((e.isStar||_)&&_&&_)=_)
 refine h.symm▸?_
 rfl
theorem Js:cW J pg d []:=by
 intro k xs pos Q B Y A E c s env h w T
 exact(mw (α:=aP) (l:=xs) (by induction xs<;>first|rfl|exact nf h))▸wpAny_items_nil ⟨c,[],.refl T.rl,trivial,by refine T.sg.symm▸?_;exact w,λ D=>rfl⟩
inductive AJ(c:Vw)(h:Heap)(vs:ar):Value->Prop
 |mk (T:String) (a:Addr) (aK:aL) (hT:T="list"\/T="tuple") (sq:SeqAt h T a aK) (rs:ay c h vs aK) (hl:vs.length<=100000):AJ c h vs (.ref a)
theorem B8(R:Rel J c s){v:V}{x:Value}{vs:ar}(r:aD c s.heap v x)(h:RN true v c.Y=some vs):AJ c s.heap vs x:=by
 have go:∀{u:V},(match bS c.Y u with|some vs=>if short vs then some vs else none|none=>none)=some vs->aD c s.heap u x->AJ c s.heap vs x:=by
  intro u h r
  obtain⟨ws,e,h⟩:=u6 h
  have h:=bl h
  obtain⟨a,g,rfl,U,m⟩:=dk R r e
  rw[h.2]at m h
  exact⟨"list",a,g,.inl rfl,U,m,ae h.1⟩
 induction v using Mine.V.casesOn with
 |tuple ws=>
  have h:=bl h
  obtain⟨a,g,rfl,U,D,m⟩:=r
  rw[h.2]at m h
  exact⟨"tuple",a,g,.inr rfl,U,m,ae h.1⟩
 |ref i=>exact go (u:= .ref i) h r
 |list ws=>exact go (u:= .list ws) h r
 |_=>exact nn h
theorem mQ{T:String}{a:Addr}{g:aL}{Q:Bool->Shared->Prop}(j:T="list"\/T="tuple")(x:SeqAt s.heap T a g)(q:Q false s):wpAny J.ax A (notIterableAtAll (.ref a)) Q E s:=by
 obtain⟨n,e⟩:=x
 have l:s.TypeIs (.ref a) T:=⟨_,e,rfl⟩
 rcases j with rfl|rfl
 ·exact ag (wpAny_specialOf l (r:=some (.builtin "list.__iter__")) (by kernel_rfl) (aA q))
 ·exact ag (wpAny_specialOf l (r:=some (.builtin "tuple.__iter__")) (by kernel_rfl) (aA q))
theorem MV{m:ME}{ms:List ME}(L:m.isStar=false)(hm:aI J pg d m)(b:cW J pg d ms):cW J pg d (m::ms):=by
 intro k xs pos Q B Y A E c s env h w T
 induction xs using List.casesOn with
 |nil=>exact nf h
 |cons x xs=>
  rw[B7 L]at h
  rw[sD L]at w
  have h:=ao h
  have M:=ao h.1
  exact wpAny_items_cons ((hm k x _ B Y A E c s env M.2 w T).go λ y p c₁ v S r i=>jz.go (b k xs pos _ B c₁.Y A E c₁ p env h.2 i (T.step S)) λ ys G c₂ vs a U q N=>⟨c₂,v::vs,S.trans a,⟨r.carry a.carry,U⟩,q,λ z=>aE (·+1) (N (ao z).2)⟩) (yK (ao M.1).1)
theorem FO{a:ME}{ms:List ME}(hm:aI J pg d a)(G:cW J pg d ms):cW J pg d (.star a::ms):=by
 intro k xs pos Q B Y A E c s env h w T
 induction xs using List.casesOn with
 |nil=>exact nf h
 |cons x xs=>
  have h:=ao h
  refine pM (P:=λ x=>wpAny J.ax A (spliced (backTo pos (starEach (x::xs) env))) (jz J c s Q λ n=>(x::xs).all noStar=true->n=(x::xs).length) E s) h.1 λ x p N=> ?_
  show wpAny _ _ (spliced ((true,do let v<-eval x env;standAt pos;pure v)::backTo pos (starEach xs env))) _ _ _
  refine ag (ag ((hm k x _ B Y A E c s env N w T).go λ y m c₁ v S r i=>de i λ vs t i=> ?_))
  obtain⟨TT,b,g,j,U,f,I⟩:=B8 S.rel r t
  refine ag (c7 (aA (ag (mQ j U ?_))))
  obtain⟨n,e⟩:=U
  refine ag (aW λ C=>wpAny_collect_seq b j e rfl rfl (λ h' H u=> ?_) (by refine cA.symm▸f.length▸aQ.symm▸?_;exact aa I (by decide)))
  have l:Step J c₁ m c₁ {m with heap:=h'} cZ:=S.rel.other cZ (λ b o e D=>H b o e) (λ D h=>h.elim) u rfl rfl
  exact ag (bX (jz.go (G k xs pos _ B c₁.Y A E c₁ _ env h.2 i (T.step (S.trans l))) λ ys aT c₂ ws M L q D=>aA ⟨c₂,vs++ws,(S.trans l).trans M,((f.carry l.carry).carry M.carry).append L,q,λ z=>nf (ao z).1⟩))
theorem gy.after{c c₁:Vw}{s p s':Shared}{x:Value}(S:Step J c s c₁ p cZ)(h:gy J c₁ p Q x s'):gy J c s Q x s':=let⟨G,v,l,r,q⟩:=h;⟨G,v,S.trans l,r,q⟩
theorem yL{vs:ar}{xs:aL}{es:List aP}(r:ay c h vs xs)(n:es.all noStar=true->vs.length=es.length)(M:es.all noStar=true)(u:decide (es.length<=1000)=true):xs.length<=sizeLine:=by
 have:=ae u
 refine r.length▸(n M).symm▸aQ.symm▸?_;exact aa (ae u) (by decide)
theorem MW(mt:Bool){es:List ME}(he:cW J pg d es):aI J pg d (.list mt es):=by
 intro k e Q B Y A E c s env h w T
 refine MH (P:=λ e=>bL J A E c s (eval e env) Q) h λ o p h=> ?_
 have h:=ao h
 have M:=ao h.1
 refine wpAny_List (jz.go (he k o p _ B Y A E c s env M.1 w T) λ vals f c₁ vs S m q N=>⟨yL m N M.2 h.2,?_⟩)
 induction mt using Bool.casesOn with
 |false=>exact(nZ S.rel m q).after S
 |true=>exact(uU S.rel m q).after S
theorem MX{a b:ME}(z:aI J pg d a)(U:aI J pg d b):aI J pg d (.mulM a b):=by
 intro k e Q B Y A E c s env h w T
 refine B1 (P:=λ e=>bL J A E c s (eval e env) Q) h λ l G r p h=> ?_
 have h:=ao h
 have M:=ao h.1
 refine(show G= .Mult from ae M.1).symm▸?_
 refine wpAny_BinOp (two z U T M.2 h.2 w λ x y N c₂ va vb S r1 r2 v=>de v λ xs j q=> ?_)
 obtain⟨n,I,j⟩:=bind_some j
 obtain⟨zs,o,j⟩:=bind_some j
 have j:=bl j
 have U:=ao j.1
 have f:=ao U.2
 rw[V.gh I]at r2
 obtain⟨u,rfl⟩:=r2
 obtain⟨H,g,rfl,⟨m,e⟩,i⟩:=dk S.rel r1 o
 rw[<-j.2]at q
 exact oo e (ae U.1) (ae f.1) (by refine cA.symm▸i.length▸?_;exact ae f.2) ((uU S.rel (t:=N.toks) (i.rep n.toNat) q).after S)
theorem Jt{es:List ME}(he:cW J pg d es):aI J pg d (.tuple es):=by
 intro k e Q B Y A E c s env h w T
 refine wo (P:=λ e=>bL J A E c s (eval e env) Q) h λ o n p h=> ?_
 have h:=ao h
 have M:=ao h.1
 exact wpAny_Tuple (jz.go (he k o p _ B Y A E c s env M.1 w T) λ vals f c₁ vs S m q N=>⟨yL m N M.2 h.2,(Dm S.rel m q).after S⟩)
theorem PA{t a b:ME}(u:eS J pg d t)(z:aI J pg d a)(U:aI J pg d b):aI J pg d (.EZ t a b):=by
 intro k e Q B Y A E c s env h w T
 refine Jh (P:=λ e=>bL J A E c s (eval e env) Q) h λ n o y p h=> ?_
 have h:=ao h
 have M:=ao h.1
 refine wpAny_IfExp ((u k n (λ q Y=>match q with
   |true=>wE J pg d a Q B Y
   |false=>wE J pg d b Q B Y) B Y A E c s env M.1 w T).go λ q m c₁ S i=> ?_)
 induction q using Bool.casesOn with
 |true=>exact(z k o Q B c₁.Y A E c₁ m env M.2 i (T.step S)).after S
 |false=>exact(U k y Q B c₁.Y A E c₁ m env h.2 i (T.step S)).after S
theorem PB{a b:ME}(z:aI J pg d a)(U:aI J pg d b):aI J pg d (.bor a b):=by
 intro k e Q B Y A E c s env h w T
 refine sx (P:=λ e=>bL J A E c s (eval e env) Q) h λ op xs p h=> ?_
 have h:=ao h
 refine(ae h.1).symm▸?_
 refine Jg (P:=λ xs=>bL J A E c s (eval (.BoolOp .Or xs p) env) Q) h.2 λ x y h=> ?_
 have h:=ao h
 refine wpAny_Or2 ((z k x _ B Y A E c s env h.1 w T).go λ u m c₁ v S r i=>de i λ q M i=>(qr (Q:=λ I σ'=>I=q/\σ'=c₁.Y) S.rel r M ⟨rfl,rfl⟩).go λ I G c₂ o e=> ?_)
 rw[<-e.1,<-e.2]at i
 induction I using Bool.casesOn with
 |true=>exact⟨c₂,v,S.trans o,r.carry o.carry,i⟩
 |false=>exact(U k y Q B c₂.Y A E c₂ G env h.2 i (T.step (S.trans o))).after (S.trans o)
theorem isTrue_plain{e:aP}{whole:Sem Value}(h:plainT e=true):PySem.isTrue e env whole=(do let v<-whole;standAt e.pos;holding [v] (truthy v)):=by
 induction e using PySem.Expr.casesOn with
 |UnaryOp op _ _=>induction op using PySem.UnaryOp.casesOn<;>first|rfl|exact nf h
 |_=>first|rfl|exact nf h
theorem FP{m:ME}(hm:aI J pg d m)(M:FI m=false)(hp:∀k e,bY 1 k m e=true->bY 0 k m e=true):eS J pg d m:=λ k e Q B Y A E c s env h w T=>have h:=ao h
 wpAny_isTrue_value ((hm k e _ B Y A E c s env (hp k e h.2) w T).go λ x p c₁ v S r i=>de i λ q b i=>(qr S.rel r b i).after S) (isTrue_plain (by
  have h:=h.1
  unfold Jm at h
  rw[M]at h
  exact h))
theorem pP(ok:bA J){op:CmpOp}{a b:V}{x y:Value}{v:Bool}{P:dR}(u:A.units+10<cLine)(R:Rel J c s)(r1:aD c s.heap a x)(r2:aD c s.heap b y)(h:mq c.Y op a b=some v)(f:∀s' G,Step J c s G s' cZ->G.Y=c.Y->P (.bool v) s'):wpAny J.ax A (compareOp op x y) P E s:=(lV (Q:=λ u Y=>u= .bool v/\Y=c.Y) R ok.sys u r1 r2 h ⟨rfl,rfl⟩).go λ z q H u g U e=>by
  refine(show z= .bool v by rw[e.1]at U;exact U).symm▸?_
  exact f q H g e.2
theorem MY(ok:bA J)(op:CmpOp){a b:ME}(z:aI J pg d a)(U:aI J pg d b):eS J pg d (.cmp op a b):=λ k e Q B Y A E c s env h w T=>B6 (P:=λ e=>yi J A E c s (PySem.isTrue e env (eval e env)) Q) (ao h).2 λ l r p M G hm=>wpAny_isTrue_Compare1 (two z U T M G w λ x y N c₂ va vb S r1 r2 o=>de o λ v n q=>pP ok T.units S.rel r1 r2 n λ i H g e=>wpAny_truthy_bool ⟨H,S.trans g,by exact e▸q⟩) hm
theorem Ju(ok:bA J){a b e:ME}(M G:CmpOp)(f:aI J pg d a)(N:aI J pg d b)(he:aI J pg d e):eS J pg d (.pF a M b G e):=by
 intro k ex Q B Y A E c s env h w T
 refine yH (P:=λ e=>yi J A E c s (PySem.isTrue e env (eval e env)) Q) (ao h).2 λ l m r p I L n hm=> ?_
 refine isTrue_chain (aV (two f N T I L w (Q:=λ x y U=>_) λ x y U c₂ va vb S r1 r2 o=> ?_) (λ x aq C=>test_link (aV C (λ y U j=>j) λ D D z=>z)) λ D D z=>z) hm
 refine de o λ q t o=>pP ok T.units S.rel r1 r2 t λ bx H g e=>wpAny_truthy_bool ?_
 rw[<-e]at o
 induction q using Bool.casesOn with
 |false=>exact⟨H,S.trans g,o⟩
 |true=>
  refine test_last ((he k r _ B H.Y A E H bx env n o ((T.step S).step g)).go λ u jU sC ve i yI uh=>de uh λ v hv q=>pP ok T.units i.rel ((r2.carry g.carry).carry i.carry) yI hv λ kT je eC e=>wpAny_truthy_bool ⟨je,((S.trans g).trans i).trans eC,by exact e▸q⟩)
theorem MZ{a:ME}(z:eS J pg d a):eS J pg d (.uf a):=by
 intro k e Q B Y A E c s env h w T
 refine pJ (P:=λ e=>yi J A E c s (PySem.isTrue e env (eval e env)) Q) (ao h).2 λ op x p h=> ?_
 have h:=ao h
 exact ae h.1▸wpAny_isTrue_Not ((z k x (λ b Y=>Q (!b) Y) B Y A E c s env h.2 w T).go λ b s' G S q=>⟨G,S,q⟩)
noncomputable def lZ(J:Cx)(pg:Pg)(d:Nat)(ms:List ME):Prop:=∀(k:CC)(xs:List aP)(Q:Bool->Mem->Prop)(B:ar)(Y:Mem)(A:Around)(E:dR)(c:Vw)(s:Shared)(env:Env),fK 1 k ms xs=true->At J pg d k B Y A c s env->(wTs J pg d ms Q B Y->yi J A E c s (allTrue .And xs env) Q)/\(RO J pg d ms Q B Y->yi J A E c s (allTrue .Or xs env) Q)
theorem Jv:lZ J pg d []:=by
 intro k xs Q B Y A E c s env h T
 exact(mw (α:=aP) (l:=xs) (by induction xs<;>first|rfl|exact nf h))▸⟨λ w=>wpAny_allTrue_And_nil ⟨c,.refl T.rl,by refine T.sg.symm▸?_;exact w⟩,λ w=>wpAny_allTrue_Or_nil ⟨c,.refl T.rl,by refine T.sg.symm▸?_;exact w⟩⟩
theorem vd{m:ME}{ms:List ME}{x:aP}{xs:List aP}(h:fK 1 k (m::ms) (x::xs)=true):noStar x=true/\MO k m x=true/\fK 1 k ms xs=true:=by
 have h:=ao h
 have M:=ao h.1
 cases L:m.isStar with
 |true=>exact ME.lX (P:=λ m=>bY 1 k m x=true->_) L (λ a h=>nf h) M.2
 |false=>
  have u:=M.1
  rw[L]at u
  exact⟨(ao u).1,by delta MO;rw[(ao u).2,M.2];rfl,h.2⟩
theorem FQ{m:ME}{ms:List ME}(hm:eS J pg d m)(b:lZ J pg d ms):lZ J pg d (m::ms):=by
 intro k xs Q B Y A E c s env h T
 induction xs using List.casesOn with
 |nil=>exact nf h
 |cons x xs=>
  have h:=(vd h).2
  constructor
  ·intro w
   refine wpAny_allTrue_And_cons ((hm k x (λ q Y=>match q with
    |true=>wTs J pg d ms Q B Y
    |false=>Q false Y) B Y A E c s env h.1 w T).go λ q p c₁ S i=> ?_)
   induction q using Bool.casesOn with
   |true=>exact((b k xs Q B c₁.Y A E c₁ p env h.2 (T.step S)).1 i).after S
   |false=>exact⟨c₁,S,i⟩
  ·intro w
   refine wpAny_allTrue_Or_cons ((hm k x (λ q Y=>match q with
    |true=>Q true Y
    |false=>RO J pg d ms Q B Y) B Y A E c s env h.1 w T).go λ q p c₁ S i=> ?_)
   induction q using Bool.casesOn with
   |true=>exact⟨c₁,S,i⟩
   |false=>exact((b k xs Q B c₁.Y A E c₁ p env h.2 (T.step S)).2 i).after S
theorem M0{es:List ME}(he:lZ J pg d es):eS J pg d (.qT es):=by
 intro k e Q B Y A E c s env h w T
 refine sx (P:=λ e=>yi J A E c s (PySem.isTrue e env (eval e env)) Q) (ao h).2 λ op x p h=> ?_
 have h:=ao h
 exact ae h.1▸wpAny_isTrue_BoolOp ((he k x Q B Y A E c s env h.2 T).1 w)
theorem PC{es:List ME}(he:lZ J pg d es):eS J pg d (.Mw es):=by
 intro k e Q B Y A E c s env h w T
 refine sx (P:=λ e=>yi J A E c s (PySem.isTrue e env (eval e env)) Q) (ao h).2 λ op x p h=> ?_
 have h:=ao h
 exact ae h.1▸wpAny_isTrue_BoolOp ((he k x Q B Y A E c s env h.2 T).2 w)
section
variable{M:Model}
theorem bQ{pos:Pos}{f:Value}{first:aL}{args:List (Bool×Sem Value)}{keywords:List (Option Str×Sem Value)}{Q:dR}(h:wpAny M A (evalArgs f true args keywords) (λ a p=>(∃k,Looks M p.heap (keeperOf f) k)/\wpAny M A (call f (first++a.pos) a.kw) Q E p) E s):wpAny M A (callWith pos f first args keywords) Q E s:=by
 refine ag (bX (aV h (λ a p C=>ag (c7 ?_)) λ D D x=>x))
 obtain⟨⟨k,L⟩,C⟩:=C
 refine ag (L.here ?_)
 have tail:∀{t:Sem Value},wpAny M A t Q E p->wpAny M A (t>>=λ r=>holding [r] point>>=λ D=>pure r) Q E p:=
  λ u=>ag (aV u (λ r U b=>ag (bX (wpAny_point (aA b)))) λ D D x=>x)
 have marked (mk:Value):wpAny M A (callMarked mk f (first++a.pos) a.kw) Q E p:=by skip;exact Calls.wpAny_keep C
 induction k<;>cases(args.any (·.1)||keywords.any (·.1.isNone))<;>dsimp only<;>first|exact tail C|exact tail (marked _)|exact tail (wpAny_operateT C)|(split<;>first|exact tail C|exact tail (marked _))
noncomputable def oD(l:List (Bool×Sem Value)):Bool:=l1 l (·.1)
theorem dQ{f:Value}{args:List (Bool×Sem Value)}{keywords:List (Option Str×Sem Value)}{Q:Args->Shared->Prop}(N:oD args=false)(m:keywords.all (·.1.isSome)=true)(h:wpAny M A (spliced args) (λ vs w=>wpAny M A (evalAll (keywords.map (·.2))) (λ ks U=>Q ⟨vs,(keywords.filterMap (·.1)).zip ks⟩ U) E w) E s):wpAny M A (evalArgs f true args keywords) Q E s:=by
 have e:evalArgs f true args keywords=(spliced args>>=λ vs=>holding (vs++[]) (if keywords.all (·.1.isSome)then(evalAll (keywords.map (·.2))>>=λ ks=>pure vs>>=λ p=>pure ⟨p,(keywords.filterMap (·.1)).zip ks⟩)else
   mergedKeywords f keywords>>=λ d=>pure vs>>=λ pos=>holding (.ref d::pos) (keywordsIn f d)>>=λ ks=>pure ⟨pos,ks⟩)):=by
  induction args with
  |nil=>rfl
  |cons a r=>obtain⟨b,x⟩:=a;induction r with
   |nil=>induction b with
    |true=>exact nf N.symm
    |false=>rfl
   |cons y r=>induction b<;>rfl
 refine e.symm▸m.symm▸?_
 exact ag (aV h (λ vs w L=>bX (ag (aV L (λ ks U C=>ag (aA (aA C))) λ D D z=>z))) λ D D z=>z)
end
noncomputable def l7(J:Cx)(pg:Pg)(d:Nat)(ms:List ME):Prop:=∀(k:CC)(ks:List Keyword)(pos:Pos)(Q:ar->Mem->Prop)(B:ar)(Y:Mem)(A:Around)(E:dR)(c:Vw)(s:Shared)(env:Env),fK 0 k ms (ks.map (·.value))=true->(ks.map (·.value)).all noStar=true->wEs J pg d ms Q B Y->At J pg d k B Y A c s env->wpAny J.ax A (evalAll ((backToKw pos (keywordEach ks env)).map (·.2))) (jz J c s Q λ n=>n=ks.length) E s
theorem l8{v:Nat}{m:ME}{x:aP}(h:bY v k m x=true)(w:noStar x=true):m.isStar=false:=by
 cases L:m.isStar with
 |false=>rfl
 |true=>exact ME.lX (P:=λ m=>bY v k m x=true->_) L (λ a h=>pM (P:=λ x=>noStar x=true->_) (ao h).2 (λ D D D h=>nf h) w) h
theorem jV:l7 J pg d []:=by
 intro k ks pos Q B Y A E c s env h L w T
 exact(mw (α:=Keyword) (l:=ks) (by induction ks<;>first|rfl|exact nf h))▸aA ⟨c,[],.refl T.rl,trivial,by refine T.sg.symm▸?_;exact w,rfl⟩
theorem FR{m:ME}{ms:List ME}(hm:aI J pg d m)(b:l7 J pg d ms):l7 J pg d (m::ms):=by
 intro k ks pos Q B Y A E c s env h L w T
 induction ks using List.casesOn with
 |nil=>exact nf h
 |cons x xs=>
  obtain⟨nm,v,p⟩:=x
  have L:=ao L
  have h:=ao h
  have M:=ao h.1
  rw[sD (l8 M.2 L.1)]at w
  show wpAny _ _ (evalAll ((do let y<-eval v env;standAt pos;pure y)::(backToKw pos (keywordEach xs env)).map (·.2))) _ _ _
  exact ag (ag ((hm k v _ B Y A E c s env M.2 w T).go λ y f c₁ u S r i=>ag (c7 (aA (ag (bX (jz.go (b k xs pos _ B c₁.Y A E c₁ f env h.2 L.2 i (T.step S)) λ ys G c₂ vs a U q N=>aA ⟨c₂,u::vs,S.trans a,⟨r.carry a.carry,U⟩,q,aE (·+1) N⟩)))))))
theorem c8.of:∀{ns:List Str}{vs:ar}{xs:aL},ns.length=xs.length->ay c h vs xs->c8 c h ns vs (ns.zip xs):=by
 intro ns
 induction ns with
 |nil=>intro vs xs e r;induction xs with
  |nil=>induction vs with
   |nil=>trivial
   |cons=>exact r.elim
  |cons=>exact Nat.noConfusion e
 |cons n ns y=>intro vs xs e r;induction xs with
  |nil=>exact Nat.noConfusion e
  |cons x xs=>induction vs with
   |nil=>exact r.elim
   |cons v vs=>exact⟨rfl,r.1,y (mH e) r.2⟩
theorem lX(R:Rel J c s){v:V}{x:Value}{vs:ar}{Q:aL->Shared->Prop}(r:aD c s.heap v x)(h:RN true v c.Y=some vs)(q:∀xs s',Step J c s c s' cZ->ay c s'.heap vs xs->Q xs s'):StarOf J.ax A E x Q s:=by
 obtain⟨TT,b,g,j,U,m,N⟩:=B8 R r h
 refine mQ j U ⟨rfl,?_⟩
 obtain⟨n,e⟩:=U
 refine aW λ u=>wpAny_collect_seq b j e rfl rfl (λ h' H i=> ?_) (by refine cA.symm▸m.length▸aQ.symm▸?_;exact aa N (by decide))
 have l:Step J c s c {s with heap:=h'} cZ:=R.other cZ (λ b o e D=>H b o e) (λ D h=>h.elim) i rfl rfl
 exact q _ _ l (m.carry l.carry)
theorem FT{ks:List Keyword}{pos:Pos}{ns:List Str}(h:ks.map (·.arg)=ns.map some):(backToKw pos (keywordEach ks env)).all (·.1.isSome)=true/\(backToKw pos (keywordEach ks env)).filterMap (·.1)=ns:=by
 induction ks generalizing ns with
 |nil=>
  induction ns using List.casesOn with
  |nil=>exact⟨rfl,rfl⟩
  |cons _ _=>cases h
 |cons x xs y=>
  obtain⟨nm,v,p⟩:=x
  induction ns using List.casesOn with
  |nil=>cases h
  |cons n ns=>
   simp only[gu,List.cons.injEq]at h
   obtain⟨M,u⟩:=h
   subst M
   obtain⟨i,j⟩:=y u
   constructor
   ·refine(?_:(true&&(backToKw pos (keywordEach xs env)).all (·.1.isSome))=true)
    refine i.symm▸?_;rfl
   ·refine(?_:n::(backToKw pos (keywordEach xs env)).filterMap (·.1)=_)
    exact j.symm▸rfl
theorem DE{as:List aP}{pos:Pos}(h:oD (backTo pos (starEach as env))=true):∃x,as=[x]/\noStar x=false:=by
 induction as with
 |nil=>exact nf h
 |cons x r=>
  induction r with
  |nil=>refine⟨x,rfl,?_⟩;induction x using PySem.Expr.casesOn<;>first|rfl|exact nf h
  |cons y r=>
   have two:∀(a b:Bool×Sem Value) l,oD (backTo pos (a::b::l))=false:=λ a b l=>by obtain⟨D|D,D⟩:=a<;>obtain⟨D|D,D⟩:=b<;>rfl
   have one:∀(x:aP)(r:List aP),∃p,starEach (x::r) env=p::starEach r env:=λ x r=>by induction x using PySem.Expr.casesOn<;>exact⟨_,rfl⟩
   obtain⟨p,e⟩:=one x (y::r)
   obtain⟨d,U⟩:=one y r
   rw[e,U,two]at h
   exact nf h
inductive kH(J:Cx)(c:Vw)(s:Shared)(ns:List Str)(P:ar->ar->Mem->Prop)(a:Args)(s':Shared):Prop
 |mk (c':Vw) (vs ws:ar) (S:Step J c s c' s' cZ) (rs:ay c' s'.heap vs a.pos) (rk:c8 c' s'.heap ns ws a.kw) (p:P vs ws c'.Y):kH J c s ns P a s'
theorem kH.go{t:Sem Args}{ns:List Str}{P:ar->ar->Mem->Prop}{R:Args->Shared->Prop}(h:wpAny J.ax A t (kH J c s ns P) E s)(f:∀a s' G vs ws,Step J c s G s' cZ->ay G s'.heap vs a.pos->c8 G s'.heap ns ws a.kw->P vs ws G.Y->R a s'):wpAny J.ax A t R E s:=aV h (λ a s' ⟨G,vs,ws,S,m,U,p⟩=>f a s' G vs ws S m U p) λ D D z=>z
theorem eT{args kws:List ME}(z:cW J pg d args)(n:∀a,args=[.star a]->aI J pg d a)(H:l7 J pg d kws){as:List aP}{ks:List Keyword}{ns:List Str}{pos:Pos}{f:Value}{P:ar->ar->Mem->Prop}(M:fK 0 k args as=true)(u:(as.all noStar||kws.isEmpty)=true)(l:ks.map (·.arg)=ns.map some)(g:fK 0 k kws (ks.map (·.value))=true)(e:(ks.map (·.value)).all noStar=true)(w:wEs J pg d args (λ vs Y=>wEs J pg d kws (λ ws Y=>P vs ws Y) B Y) B Y)(T:At J pg d k B Y A c s env):wpAny J.ax A (evalArgs f true (backTo pos (starEach as env)) (backToKw pos (keywordEach ks env))) (kH J c s ns P) E s:=by
 have i:=FT (env:=env) (pos:=pos) l
 cases N:oD (backTo pos (starEach as env))with
 |false=>
  refine dQ N i.1 (jz.go (z k as pos _ B Y A E c s env M w T) λ xs o c₁ vs S j Q D=>jz.go (H k ks pos _ B c₁.Y A E c₁ o env g e Q (T.step S)) λ ys aT c₂ ws b U q N=>⟨c₂,vs,ws,S.trans b,j.carry b.carry,?_,q⟩)
  refine i.2.symm▸?_
  refine c8.of ?_ U
  rw[<-U.length,N,<-aX (f:=some),<-l,aX]
 |true=>
  obtain⟨x,rfl,I⟩:=DE N
  have t:kws=[]:=by induction kws with
   |nil=>rfl
   |cons=>rw[show([x].all noStar)=(noStar x&&true) from rfl,I]at u;exact nf u
  subst t
  have t:ks=[]:=by induction ks with
   |nil=>rfl
   |cons=>exact nf g
  subst t
  have G:ns=[]:=by induction ns with
   |nil=>rfl
   |cons=>cases l
  subst G
  induction args with
  |nil=>exact nf M
  |cons m r=>
   have h:=ao M
   have h':=ao h.1
   induction r with
   |cons=>exact nf h.2
   |nil=>
    have L:m.isStar=true:=by
     have:=h'.1
     rw[I]at this
     exact(RI this).elim id λ q=>nf q
    refine ME.lX (P:=λ m=>bY 0 k m x=true->wEs J pg d [m] (λ vs Y=>wEs J pg d [] (λ ws Y=>P vs ws Y) B Y) B Y->(∀a,[m]=[.star a]->aI J pg d a)->_) L (λ a M w n=> ?_) h'.2 w n
    refine pM (P:=λ x=>wpAny J.ax A (evalArgs f true (backTo pos (starEach [x] env)) (backToKw pos (keywordEach [] env))) (kH J c s [] P) E s) M λ x p M=> ?_
    exact ks_lone ((n a rfl k x _ B Y A E c s env M w T).go λ y o c₁ v S r Q=>de Q λ vs C Q=>lX S.rel r C λ xs s' S' j=>⟨c₁,vs,[],S.trans S',j,trivial,d1 vs▸(show P (vs++[]) [] c₁.Y from Q)⟩)
noncomputable def cF(J:Cx):Prop:=∀(A:Around)(E:dR)(c:Vw)(s:Shared)(f:V)(args:ar)(o:Value)(xs:aL)(v:V)(σ':Mem)(Q:eY),ja 0 A->Rel J c s->aD c s.heap f o->ay c s.heap args xs->dY c.Y f args=some (v,σ')->Q v σ'->bL J A E c s (call o xs) Q
theorem qy(N:cF J){f:V}{args:ar}{ns:List Str}{kws:ar}{o:Value}{xs:aL}{ks:List (Str×Value)}(M:ja d A)(I:vZ A c)(R:Rel J c s)(g:aD c s.heap f o)(G:ay c s.heap args xs)(U:c8 c s.heap ns kws ks)(w:gB J d f args ns kws Q c.Y):(∃k,Looks J.ax s.heap (keeperOf o) k)/\bL J A E c s (call o xs ks) Q:=by
 have own:aH J d f args ns kws Q c.Y->(∃k,Looks J.ax s.heap (keeperOf o) k)/\bL J A E c s (call o xs ks) Q:=λ h=>have h:=h A c s o xs ks M I rfl R g G U
  ⟨h.1,wpAny_call (codeAny_mono h.2 λ r s' ⟨x,u,v,e,S,H,q⟩=>e▸⟨u,v,S,H,q⟩)⟩
 have L:pH f args kws Q c.Y->(∃k,Looks J.ax s.heap (keeperOf o) k)/\bL J A E c s (call o xs ks) Q:=by
  intro y
  induction kws with
  |cons=>exact y.elim
  |nil=>induction ns with
   |cons=>induction ks<;>exact U.elim
   |nil=>induction ks with
    |cons=>exact U.elim
    |nil=>
     cases e:dY c.Y f args with
     |none=>unfold pH at y;rw[e]at y;exact y.elim
     |some r=>
      obtain⟨v,σ'⟩:=r
      unfold pH at y
      rw[e]at y
      refine⟨?_,N A E c s f args o xs v σ' Q (M.le (dF _)) R g G e y⟩
      clear w y own R G U M I N
      induction f using Mine.V.casesOn with
      |bi b=>exact(show o=_ from g)▸⟨.machine,Looks.now⟩
      |ty b=>exact(show o=_ from g)▸⟨.machine,Looks.now⟩
      |bm b=>exact(show o=_ from g)▸⟨.machine,Looks.now⟩
      |_=>exact nn e
 unfold gB at w
 induction f using Mine.V.casesOn with
 |glob a=>induction d with
  |zero=>exact w.elim
  |succ d=>exact own w
 |ref a=>induction d with
  |zero=>exact w.elim
  |succ d=>exact own w
 |_=>exact L w
theorem s_call(U:cF J){f:ME}{args kws:List ME}(ns:List Str)(i:aI J pg d f)(z:cW J pg d args)(j:∀a,args=[.star a]->aI J pg d a)(H:l7 J pg d kws):aI J pg d (.call f args ns kws):=by
 intro k e Q B Y A E c s env h w T
 refine fT (P:=λ e=>bL J A E c s (eval e env) Q) h λ g as ks p h=> ?_
 have m:=ao h
 have n:=ao m.1
 have r:=ao n.1
 have u:=ao r.1
 have M:=ao u.1
 have q:=ao M.1
 refine bW (P:=λ g=>bY 0 k f g=true->bL J A E c s (eval (.Call g as ks p) env) Q) q.1 (λ x np D q=> ?_) q.2
 show wpAny _ _ (eval (.Name x np) env>>=λ g=>callWith p g [] (backTo p (starEach as env)) (backToKw p (keywordEach ks env))) _ _ _
 refine ag ((i k (.Name x np) _ B Y A E c s env q w T).go λ I L c₁ C S t v=>bQ (kH.go (eT z j H M.2 u.2 (ae r.2) n.2 m.2 v (T.step S)) λ a y c₂ vs ws o b G N=> ?_))
 have l:=qy (E:=E) U T.rm ((T.step S).step o).sk o.rel (t.carry o.carry) b G N
 exact⟨l.1,l.2.after (S.trans o)⟩
theorem yM:Slot "bytes" "translate" "bytes.translate":= .of (owner:="bytes") (n:="translate") (by rw[mI,mJ];kernel_rfl) (by decide+kernel) (by decide+kernel) (by decide+kernel) (by first|exact .inl (by decide+kernel)|exact .inr (by decide+kernel)) (by rw[eX];kernel_rfl)
theorem yN:typeOf (.builtin "bytes.translate")=pure (.type "method_descriptor"):=by refine(?_:builtinType _=_);refine builtinType_eq_fast.symm▸?_;kernel_rfl
theorem wz:findCls [] (.type "bytes") (.type "type") "maketrans"=some (.val (.builtin "bytes.maketrans")):=by kernel_rfl
theorem wA{i:Sem Bool}{Q:Value×aL->Shared->Prop}(q:Q (.builtin "bytes.maketrans",[]) {s with toks:=s.toks+1}):wpAny J.ax A (getMethod (.type "bytes") "maketrans" i) Q E s:=by
 have X:Frag.In [] s.heap:=λ a o h=>by exact nn h
 have H:opaqueClassAbove (.type "bytes")=pure none:=by delta opaqueClassAbove;dsimp only;refine(show Manifest.isStub "bytes"=false by decide+kernel).symm▸?_;rfl
 have u:typeOf (.type "bytes")=pure (.type "type"):=by first|rfl|kernel_rfl
 have t:Looks J.ax s.heap (typeOf (.type "bytes")) (.type "type"):=Looks.of_pure u
 have c:findIn [] (.type "type") "__getattribute__"=some (some (.builtin "type.__getattribute__")):=type_tga
 unfold getMethod specialOf
 refine ag (ag (t.here ((looks_findIn X c).here ?_)))
 dsimp only
 refine(aw canon_tga).symm▸?_
 refine ag (aV (Q:=λ v=>Q (v,[])) (E:=E) ?_ (λ D D z=>aA z) λ D D z=>z)
 have L:Looks J.ax s.heap (opaqueClassAbove (.type "bytes")) none:=Looks.of_pure H
 refine cls_open X L t c (looks_hook X (r:=none) (by rfl)) (by refine(?_:subIn [] _ _=_);rfl) wz ?_
 exact aA (aA q)
noncomputable def SW:Nat->String
 |0=>"list"|1=>"dict"|2=>"set"|3=>"str"|_=>"bytes"
theorem PE{t m:Nat}{v:V}{r:V×ar}(u:t<5)(h:Au t v m=some r):∃b:Bm,r=(.bm b,[v])/\Slot (SW t) (ba m) b.id/\typeOf (.builtin b.id)=pure (.type "method_descriptor"):=by
 obtain⟨b,U,rfl⟩:=cB.mp h
 have q:=ao (List.find?_some (p:=λ b:Bm=>Nat.beq b.ty t&&Nat.beq b.no m) U)
 rw[<-Nat.eq_of_beq_eq_true q.1]at u⊢
 refine(Nat.eq_of_beq_eq_true q.2)▸?_
 refine⟨b,rfl,?_⟩
 clear h U q
 induction b with
 |iS=>exact⟨F.slot_list_append,F.type_list_append⟩
 |vV=>exact⟨F.slot_list_pop,F.type_list_pop⟩
 |iT=>exact⟨F.slot_list_extend,F.type_list_extend⟩
 |lp=>exact⟨F.slot_list_clear,F.type_list_clear⟩
 |vW=>exact⟨F.slot_dict_get,F.type_dict_get⟩
 |yb=>exact⟨F.slot_set_add,F.type_set_add⟩
 |gd=>exact⟨F.slot_str_encode,F.type_str_encode⟩
 |kD=>exact⟨F.slot_str_join,F.type_str_join⟩
 |d2=>exact⟨yM,yN⟩
 |iU=>exact⟨FB.slot_bytes_decode,FB.type_bytes_decode⟩
 |c0=>exact absurd u (d0 5)
theorem oE{v f:V}{first:ar}{m t:Nat}{x:Value}{i:Sem Bool}{Q:Value×aL->Shared->Prop}(u:t<5)(r:aD c s.heap v x)(h:Au t v m=some (f,first))(j:s.TypeIs x (SW t))(hp:PlainAttrs (SW t))(hd:∀a,x= .ref a->∃o,s.heap.get? a=some o/\o.dict=none)(R:Rel J c s)(q:∀y ys G s',Step J c s G s' cZ->G.Y=c.Y->aD G s'.heap f y->ay G s'.heap first ys->Q (y,ys) s'):wpAny J.ax A (getMethod x (ba m) i) Q E s:=by
 obtain⟨b,e,M,H⟩:=PE u h
 obtain⟨rfl,rfl⟩:=Prod.mk.inj e
 exact getMethod_builtin j hp M H hd (q _ _ c s (.refl R) rfl rfl ⟨r,trivial⟩)
theorem pQ(ok:bA J)(U:cM J pg)(R:Rel J c s){v f:V}{first:ar}{m:Nat}{x:Value}{N:Sem Bool}{Q:Value×aL->Shared->Prop}(r:aD c s.heap v x)(h:ik pg c.Y v m=some (f,first))(q:∀y ys G s',Step J c s G s' cZ->G.Y=c.Y->aD G s'.heap f y->ay G s'.heap first ys->Q (y,ys) s'):wpAny J.ax A (getMethod x (ba m) N) Q E s:=by
 induction v using Mine.V.casesOn with
 |ref i=>
  have d:aD c s.heap (.ref i) x:=r
  obtain⟨hi,rfl⟩:=r
  have k:=R.obj i hi
  have h:jv pg (c.Y.f i) (.ref i) m=some (f,first):=h
  generalize e:c.Y.f i=o at k h
  induction o using O.casesOn with
  |list vs=>
   obtain⟨D,w,⟨n,M⟩,D⟩:=k
   exact oE (t:=0) (by decide) d h ⟨_,M,rfl⟩ F.plainAttrs_list (λ a z=>by obtain rfl:=Value.ref.inj z;exact⟨_,M,rfl⟩) R q
  |dict bC ep=>
   obtain⟨D,kx,⟨o,es,b,L,D⟩,D⟩:=k
   exact oE (t:=1) (by decide) d h ⟨_,b,L.1⟩ F.plainAttrs_dict (λ a z=>by obtain rfl:=Value.ref.inj z;exact⟨_,b,L.2.1⟩) R q
  |set xs=>
   obtain⟨D,⟨o,es,ep,t,b,L,D⟩,D⟩:=k
   exact oE (t:=2) (by decide) d h ⟨_,b,L.1⟩ F.plainAttrs_set (λ a z=>by obtain rfl:=Value.ref.inj z;exact⟨_,b,L.2.1⟩) R q
  |inst C as=>
   have h:=K5 h
   have ic:=U.inst C h.1
   by_cases hm:m=12
   ·subst hm
    obtain⟨u,g,H⟩:=Option.bind_eq_some_iff.mp h.2
    obtain⟨j,rfl,H⟩:=Aw H
    obtain⟨rfl,rfl⟩:=Prod.mk.inj (aM H)
    obtain⟨dd,es,ep,D,D,D,D,I⟩:=inst_at R hi e
    refine(show ba 12=attrName 4 by decide+kernel).symm▸?_
    refine method_usual (R.K ok) I ic.ga ic.gk (ic.B 4 (by decide)) rfl ?_
    exact(r6 (Q:=λ u Y=>u= .ref j/\Y=c.Y) R ok hi e ic (by decide:4<9) g ⟨rfl,rfl⟩).go λ y s' G u S T e=>q y [] G s' S e.2 (e.1▸T) trivial
   ·have H:=h.2
    rw[av hm]at H
    obtain⟨fa,p,H⟩:=cB.mp H
    obtain⟨rfl,rfl⟩:=Prod.mk.inj H
    have P:=U.aY C m fa p h.1
    exact Dz R ok hi e ic P.1 P.2.1 P.2.2.1 (q _ _ c s (.refl R) rfl rfl ⟨d,trivial⟩)
  |_=>exact nn h
 |str l=>exact oE (t:=3) (by decide) r h (by obtain⟨t,rfl⟩:=r;rfl) F.plainAttrs_str (λ a z=>by obtain⟨t,rfl⟩:=r;exact Value.noConfusion z) R q
 |bytes l=>exact oE (t:=4) (by decide) r h (by obtain⟨D,t,rfl⟩:=r;rfl) FB.plainAttrs_bytes (λ a z=>by obtain⟨D,t,rfl⟩:=r;exact Value.noConfusion z) R q
 |ty t=>
  have h:(if t= .bytes/\m=11 then some (V.bm .c0,([]:ar))else none)=some (f,first):=h
  by_cases hm:t= .bytes/\m=11
  ·rw[aw hm]at h
   obtain⟨rfl,rfl⟩:=Prod.mk.inj (aM h)
   obtain⟨rfl,rfl⟩:=hm
   exact(show x=_ from r)▸wA (q _ _ c _ (Step.toks R _) rfl rfl trivial)
  ·rw[av hm]at h
   exact nn h
 |_=>exact nn h
theorem Jw(ok:bA J)(h:cM J pg)(R:Rel J c s){i C fa m:Nat}{as:List (Nat×V)}{b:Bool}{Q:dR}(hi:i<c.Y.n)(e:c.Y.f i= .inst C as)(z:pg.insts.contains C=true)(hm:pg.aY C m=some fa)(q:∀s',Step J c s c s' cZ->s'.heap.get? s.heap.objs.size=some (methodObj (.ref fa) (.ref (c.ρ i)))->Q (.ref s.heap.objs.size) s'):wpAny J.ax A (getAttr (.ref (c.ρ i)) (ba m) b) Q E s:=by
 obtain⟨M,u,l,w,T,p,U⟩:=h.aY C m fa hm z
 have ic:=h.inst C z
 obtain⟨d,es,ep,D,D,D,r,I⟩:=inst_at R hi e
 have fn:es.find? (·.key.isStr (ba m))=none:=by
  rw[List.find?_eq_none]
  intro G y
  obtain⟨k,t,H,g⟩:=r.keys G y
  refine g.symm▸?_
  refine(?_:¬(attrName k==ba m)=true)
  simp[l k H]
 have N:lookIn (ba m) (dictOf es ep)=some none:=by
  unfold lookIn dictOf
  simp[fn,r.noRef]
 refine get_bind (R.K ok) I ic.ga (findObj_fn ic.hd M T p U N) ic.gk (wpAny_call (fn_get (s:={s with toks:=s.toks+1}) (R.K ok) u (handed_on rfl ?_)))
 exact q _ (R.push _ _) (bM _ rfl)
theorem sE{xs:List aP}{pos:Pos}:(backTo pos (starEach xs env)).all (!·.1)=xs.all noStar:=by
 induction xs with
 |nil=>rfl
 |cons x xs y=>
  have h:(backTo pos (starEach (x::xs) env)).all (!·.1)=(noStar x&&(backTo pos (starEach xs env)).all (!·.1)):=by induction x using PySem.Expr.casesOn<;>rfl
  refine h.symm▸y.symm▸?_;rfl
theorem sF{a:Nat}{args:ar}{ns:List Str}{kws:ar}(w:gB J d (.glob a) args ns kws Q Y):aH J d (.glob a) args ns kws Q Y:=by
 induction d with
 |zero=>exact w.elim
 |succ d=>exact w
theorem c8.none{ws:ar}{ks:List (Str×Value)}(r:c8 c h [] ws ks):c8 c h [] [] ks:=by
 induction ws with
 |nil=>exact r
 |cons=>induction ks<;>exact r.elim
theorem l9{o:aP}{m:Nat}{as:List aP}{H p:Pos}(h:d6 o=true):eval (.Call (.Attribute o (ba m) H) as [] p) env=(eval o env>>=λ E=>standAt H.atName>>=λ D=>methodCall o (ba m) H p env E (as.length+0) (backTo p (starEach as env)) (backToKw p [])):=by
 show(attributeBase o (ba m) env (eval o env)>>=_)=_
 refine(oB h).symm▸?_
 rfl
theorem fw{as:List aP}{p:Pos}:methodCallForm (as.length+0) (backTo p (starEach as env)) (backToKw p [])=(as.all noStar&&true&&decide (as.length<30)):=by
 delta methodCallForm;rw[sE];rfl
theorem M1(ok:bA J)(U:cM J pg)(G:cF J){o:ME}(m:Nat){args:List ME}(N:aI J pg d o)(I:cW J pg d args)(H:∀a,args=[.star a]->aI J pg d a):aI J pg d (.aY o m args):=by
 intro k e Q B Y A E c s env h w T
 refine fT (P:=λ e=>bL J A E c s (eval e env) Q) h λ g as ks p h=> ?_
 have h:=ao h
 refine(mw h.1).symm▸?_
 refine bG (P:=λ g=>bL J A E c s (eval (.Call g as [] p) env) Q) h.2 λ L name ap h=> ?_
 have n:=ao h
 have j:=ao n.1
 have t:=ao j.1
 have i:=ao t.1
 have u:=ao i.1
 have M:=ao u.1
 refine(bh M.2).symm▸?_
 refine(l9 M.1).symm▸?_
 refine ag ((N k L _ B Y A E c s env i.2 w T).go λ C aq c₁ v S r q=>ag (c7 (de q λ x hf q=> ?_)))
 obtain⟨f,first⟩:=x
 delta methodCall
 rw[fw,j.2,n.2]
 refine ag (bX ?_)
 refine(?_:wpAny _ _ (getMethod C (ba m) _) _ _ _)
 refine pQ ok U S.rel r hf λ y ys c₂ aT b e2 r1 r2=> ?_
 rw[<-e2]at q
 dsimp only
 delta methodCallPos
 rw[aw (by simp[ae u.2])]
 refine ag (aA (bQ (kH.go (eT (ks:=[]) (ns:=[]) (P:=λ vs ws Y=>gB J d f (first++vs) [] [] Q Y) I H jV t.2 (by simp) rfl rfl rfl q (T.step (S.trans b))) λ a bx b7 vs ws z rs rk c5=> ?_)))
 have l:=qy (E:=E) G T.rm (T.step ((S.trans b).trans z)).sk z.rel (r1.carry z.carry) ((r2.carry z.carry).append rs) rk.none c5
 exact⟨l.1,l.2.after ((S.trans b).trans z)⟩
theorem Jx(ok:bA J)(N:cM J pg)(hB:cF J){o:ME}(m:Nat){args:List ME}(ho:aI J pg d o)(ha:cW J pg d args)(my:∀a,args=[.star a]->aI J pg d a):aI J pg d (.mP o m args):=by
 intro k e Q B Y A E c s env h w T
 refine fT (P:=λ e=>bL J A E c s (eval e env) Q) h λ g as ks p h=> ?_
 have h:=ao h
 refine(mw h.1).symm▸?_
 refine bG (P:=λ g=>bL J A E c s (eval (.Call g as [] p) env) Q) h.2 λ o' name ap h=> ?_
 have n:=ao h
 have j:=ao n.1
 have l:=ao j.1
 have I:=ao l.1
 refine(bh I.2).symm▸?_
 refine(l9 I.1).symm▸?_
 refine ag ((ho k o' _ B Y A E c s env l.2 w T).go λ ov u c₁ v S r b=>ag (c7 (sj (P:=λ v=>aD c₁ u.heap v ov->_) b (λ i b r=>instP b λ C K8 e b=>de b.2 λ fa hm bB=> ?_) r)))
 refine r.2.symm▸?_
 delta methodCall
 rw[fw,i9 n.2]
 refine ag (bX ?_)
 show wpAny _ _ (getAttr (.ref (c₁.ρ i)) (ba m) true>>=λ f=>pure (f,[])) _ _ _
 refine ag (Jw ok N S.rel r.1 e b.1 hm λ aT U hq=>aA ?_)
 dsimp only
 delta methodCallPos
 rw[aw (by rfl)]
 refine ag (aA (bQ (kH.go (eT (ks:=[]) (ns:=[]) (P:=λ vs ws Y=>gB J d (.glob fa) (.ref i::vs) [] [] Q Y) ha my jV j.2 (by simp) rfl rfl rfl bB (T.step (S.trans U))) λ a G b7 vs ws y rs rk c5=> ?_)))
 have H:G.heap.get? u.heap.objs.size=some (methodObj (.ref fa) (.ref (c₁.ρ i))):=y.kept _ _ hq (λ t=>nY S.rel (.inl t)) (λ z=>z) (qq S.rel S.rel.size) λ q=>nY S.rel (.inr (.inr q))
 have ev:=sF c5 A b7 G (.ref fa) (.ref (c₁.ρ i)::a.pos) a.kw T.rm (T.step ((S.trans U).trans y)).sk rfl y.rel rfl ⟨aD.carry (v:= .ref i) (U.trans y).carry ⟨r.1,rfl⟩,rs⟩ rk.none
 refine⟨?_,wpAny_call (method_call H (codeAny_mono ev.2 λ r s' ⟨x,c',v,e,S',rv,q⟩=>e▸⟨c',v,((S.trans U).trans y).trans S',rv,q⟩))⟩
 obtain⟨k',D,L⟩:=keeps_M (M:=model J.prog J.w) (N.aY C m fa hm b.1).2.2.2.1 G.heap ⟨H,y.rel.K ok⟩
 exact⟨k',L⟩
noncomputable def sH(J:Cx)(pg:Pg)(d:Nat)(m:Option ME):Prop:=∀(k:CC)(e:Option aP)(Q:eY)(B:ar)(Y:Mem)(A:Around)(E:dR)(c:Vw)(s:Shared)(env:Env),MN k m e=true->wO J pg d m Q B Y->At J pg d k B Y A c s env->bL J A E c s (evalPart e env) Q
theorem Jy:sH J pg d none:=by
 intro k e Q B Y A E c s env h w T
 induction e with
 |none=>exact bL.val (v:= .none) T.rl rfl (by exact T.sg▸w)
 |some _=>exact nf h
theorem Jz{m:ME}(hm:aI J pg d m):sH J pg d (some m):=by
 intro k e Q B Y A E c s env h w T
 induction e with
 |none=>exact nf h
 |some e=>exact hm k e Q B Y A E c s env h w T
theorem sI{v:V}{l:Option Int}{x:Value}{P:Prop}(e:jR v=some l)(r:aD c h v x)(f:∀p:Option (Int×Tok),p.map (·.1)=l->x=partValue p->IsPart x l->P):P:=by
 induction v using Mine.V.casesOn with
 |none=>obtain rfl:=aM e;exact f none rfl r (by exact(show x=_ from r)▸.none)
 |int i=>obtain rfl:=aM e;obtain⟨t,rfl⟩:=r;exact f (some (i,t)) rfl rfl (.int i t)
 |_=>exact nn e
theorem qz{o v:V}{l h:Option Int}(e:(match bS Y o with|some vs=>if decide (vs.length<=1000000)then some (V.list (cE vs l h))else none|none=>none)=some v):∃vs,bS Y o=some vs/\vs.length<=1000000/\v= .list (cE vs l h):=by
 obtain⟨vs,N,e⟩:=u6 e
 have e:=bl e
 exact⟨vs,N,ae e.1,e.2.symm⟩
theorem wB{o v:V}{l h:Option Int}{P:Prop}(e:rW Y o l h=some v)(f:∀x,o= .str x->x.length<=1000000->v= .str (cE x l h)->P)(g:∀vs,bS Y o=some vs->vs.length<=1000000->v= .list (cE vs l h)->P):P:=by
 induction o using Mine.V.casesOn with
 |str x=>
  have e:=bl e
  exact f x rfl (ae e.1) e.2.symm
 |ref i=>obtain⟨vs,a,b,d⟩:=qz (o:= .ref i) e;exact g vs a b d
 |list i=>obtain⟨vs,a,b,d⟩:=qz (o:= .list i) e;exact g vs a b d
 |_=>exact nn e
theorem JA{o:ME}{lo hi:Option ME}(m:aI J pg d o)(n:sH J pg d lo)(hh:sH J pg d hi):aI J pg d (.slice o lo hi):=by
 intro k e Q B Y A E c s env h w T
 refine d5 (P:=λ e=>bL J A E c s (eval e env) Q) h λ G i p h=> ?_
 refine Ji (P:=λ i=>bL J A E c s (eval (.Subscript G i p) env) Q) h λ l u st p' h=> ?_
 have h:=ao h
 have N:=ao h.1
 have H:=ao N.1
 refine(rQ.mp H.1).symm▸?_
 refine og (P':=λ D D D=>True) (m k G _ B Y A E c s env H.2 w T) λ x v c₁ aq S r aG=>wpAny_Slice ((n k l _ B c₁.Y A E c₁ aq env N.2 aG (T.step S)).go λ y aT c₂ vl U gw bB=>(hh k u _ B c₂.Y A E c₂ aT env h.2 bB ((T.step S).step U)).go λ L M b7 vh z oh q=> ?_)
 refine de q λ l' e1 q=>de q λ h' e2 q=>de q λ res e3 q=>aA ?_
 have b:=z.rel.push {cls:= .type "slice",data:= .fields #[y,L,.none]} M.toks
 refine⟨b7,(U.trans z).trans b,?_⟩
 refine sI e1 gw λ p1 q1 W4 SX=>sI e2 oh λ p2 q2 W5 SY=> ?_
 have C:(M.heap.push {cls:= .type "slice",data:= .fields #[y,L,.none]}).IsSliceOf M.heap.objs.size y L .none:=⟨_,bM _ rfl,rfl,rfl⟩
 have j:=r.carry ((U.trans z).trans b).carry
 refine wB e3 (λ xs e I f=> ?_) λ vs hv I f=> ?_
 ·rw[e]at j
  rw[f,<-q1,<-q2]at q
  obtain⟨t,rfl⟩:=j
  exact⟨uZ,Dv (lo:=p1) (hi:=p2) b.rel I (let⟨ob,g1,g2,g3⟩:=C;⟨ob,g1,g2,by refine g3.symm▸W4.symm▸W5.symm▸?_;rfl⟩) q⟩
 ·rw[f]at q
  obtain⟨a,aK,rfl,g,rs⟩:=dk b.rel j hv
  exact⟨mZ g,slice_list b.rel g rs I C SX SY q⟩
theorem CC.FU{x:Str}{i:Nat}(h:k.gR x i=true):k.var x i=true/\(k.kd.lookup x=some .local\/k.kd.lookup x=some .cell)/\∀p∈k.nm,p.2=i->p.1=x:=by
 unfold CC.gR at h
 simp only[qk,Bool.or_eq_true,dD,fg,Bool.not_eq_true',decide_eq_false_iff_not]at h
 exact⟨h.1.1,h.1.2,λ p hp e=>(h.2 p hp).resolve_left λ n=>n e⟩
theorem lookup_mem{α:Type}{l:List (Str×α)}{x:Str}{i:α}(h:l.lookup x=some i):(x,i)∈l:=by
 induction l with
 |nil=>exact nn h
 |cons p l g=>
  obtain⟨y,j⟩:=p
  rw[eF]at h
  by_cases e:x==y
  ·rw[e]at h
   have:x=y:=by exact ae e
   obtain rfl:=aM h;subst this;exact List.mem_cons_self
  ·have U:(x==y)=false:=by exact(Bool.not_eq_true _).mp e
   rw[U]at h
   exact mK _ (g h)
theorem dI{x:Str}{i:Nat}{v:V}{u:Value}{A A':Around}{Q:Unit->Shared->Prop}(T:At J pg d k B Y A c s env)(h:k.gR x i=true)(r:aD c s.heap v u)(q:∀s',Step J c s c s' (Dk env x)->At J pg d k (B.set i v) Y A c s' env->Q () s'):wpAny J.ax A' (storeName env x u) Q E s:=by
 obtain⟨I,L,l⟩:=CC.FU h
 obtain⟨hv,m,D,D⟩:=CC.wx I
 have H:env.kindOf x=some .local\/env.kindOf x=some .cell:=L.imp (T.kd.l x) (T.kd.c x)
 refine uQ T.en.kind T.en.H H λ h' tk n C f t hsz=> ?_
 have S:Step J c s c {s with heap:=h',toks:=tk} (Dk env x):=T.rl.Ah (Dk env x) (λ b o e g=>by exact t b g▸e)
  (λ b M=>⟨(T.rl.mX (T.en.own b M.own)).1,(T.rl.mX (T.en.own b M.own)).2.1,(T.rl.mX (T.en.own b M.own)).2.2.1,T.en.own b M.own⟩) (λ b D M=>by
   rcases M with⟨D,rfl⟩|⟨H,N⟩
   ·obtain⟨o,es,ep,e,hd,D⟩:=n.loc
    exact⟨o,e,λ vs q=>by rw[hd]at q;cases q⟩
   ·obtain⟨a,v,p,⟨o,e,hd⟩,D⟩:=n.cell x H
    rw[N]at p;obtain rfl:=aM p
    exact⟨o,e,λ vs q=>by rw[hd]at q;cases q⟩) (bN hsz.symm) rfl rfl
 refine q _ S ⟨T.rm,T.sg,S.rel,⟨T.en.kind,T.en.glob,T.en.Mj,n,T.en.own,λ y a N=>⟨(T.en.seen y a N).1,(T.en.seen y a N).2.1,by refine(?_:a<h'.objs.size);exact hsz▸(T.en.seen y a N).2.2⟩,T.en.RJ⟩,T.kd,λ y j w N S0 U=> ?_,T.gg,T.sk⟩
 by_cases e:j=i
 ·subst e
  have:y=x:=l _ (lookup_mem N) rfl
  subst this
  have hw:w=v:=by
   rw[List.getElem?_set]at U
   simp only[if_true]at U
   split at U
   ·exact(aM U).symm
   ·exact nn U
  subst hw
  exact .inr ⟨u,C,r.carry S.carry⟩
 ·have fo:y≠x:=by
   rintro rfl
   rw[m]at N
   exact e (aM N).symm
  rw[List.getElem?_set_ne (λ z=>e z.symm)]at U
  rcases T.fv y j w N S0 U with z|⟨G,V',r'⟩
  ·exact .inl z
  ·exact .inr ⟨G,f y G fo V',r'.carry S.carry⟩
theorem Step.fresh{c c₁ c₂:Vw}{s p U:Shared}{W W':Addr->Prop}(S:Step J c s c₁ p W)(l:Step J c₁ p c₂ U W')(h:∀b,W' b->W b\/s.heap.objs.size<=b):Step J c s c₂ U W where
 rel:=l.rel
 carry:=S.carry.trans l.carry S.size
 x:=λ b h=>l.x b (S.x b h)
 rS:=λ b h=>by
  rcases l.rS b h with h|h
  ·exact S.rS b h
  ·exact .inr (aa S.size h)
 y:=λ b h=>l.y b (S.y b h)
 z:=λ b h=>l.z b (S.z b h)
 pz:=λ b h=>by
  rcases l.pz b h with h|h
  ·exact S.pz b h
  ·exact .inr (aa S.size h)
 kept:=λ b o e g m np i=>l.kept b o (S.kept b o e g m np i) (λ t=>g (S.carry.old b (cD e) t)) (λ w=>by
  rcases h b w with z|z
  ·exact m z
  ·exact aC z (cD e)) np λ q=>by
  rcases S.pz b q with q|q
  ·exact i q
  ·exact aC q (cD e)
 ju:=λ b o e v m=>by
  obtain⟨T,k⟩:=S.ju b o e v m
  obtain⟨M,d⟩:=l.ju b _ k (S.z b v) (λ w=>by
   rcases h b w with z|z
   ·exact m z
   ·exact aC z (cD e))
  exact⟨M,d⟩
 size:=aa S.size l.size
noncomputable def FW(k:Bool)(c:Vw)(h:Heap)(v:V)(x:Value):Prop:=match k with
 |false=>aD c h v x
 |true=>∃ws T vals,v= .tuple ws/\x= .ref T/\h.IsTuple T vals/\ay c h ws vals.toList
noncomputable def JB(k:Bool):aP->Bool
 | .Name .. => !k
 | .Tuple .. =>k
 |_=>false
structure dm(J:Cx)(A:Around)(pr:Bool)(I:Addr)(ys:List Addr)(vs:ar)(g:Mem->Prop)(St:Nat->Vw->Heap->Prop)(Md:Nat->Value->Vw->Heap->Prop):Prop where
 keep:∀i c s c' s' W,Rel J c s->(∀b∈ys,b∈c.y)->St i c s.heap->Step J c s c' s' W->(∀b∈ys,¬W b)->St i c' s'.heap
 item:∀i c s(Q:Option Value->Shared->Prop)(E:dR),i<vs.length->Rel J c s->(∀b∈ys,b∈c.y)->St i c s.heap->g c.Y->(∀x s',Step J c s c s' (·∈ys)->Md i x c s'.heap->Q (some x) s')->wpAny J.ax A (pyNext (.ref I)) Q E s
 go:∀i v gR x c s(Q:Unit->Shared->Prop)(E:dR),vs[i]? =some v->JB pr gR=true->Rel J c s->(∀b∈ys,b∈c.y)->Md i x c s.heap->(∀s',Step J c s c s' (·∈ys)->FW pr c s'.heap v x->St (i+1) c s'.heap->Q () s')->wpAny J.ax A (letOwnedTupleGo gR (.ref I) x) Q E s
 done:∀c s(Q:Option Value->Shared->Prop)(E:dR),Rel J c s->(∀b∈ys,b∈c.y)->St vs.length c s.heap->g c.Y->(∀s',Step J c s c s' (·∈ys)->Q none s')->wpAny J.ax A (pyNext (.ref I)) Q E s
 self:∀i c s(Q:dR)(E:dR),St i c s.heap->Q (.ref I) s->wpAny J.ax A (pyIter (.ref I)) Q E s
theorem jW(R:Rel J c s){ys:List Addr}(j:∀b∈ys,b∈c.y){h':Heap}{tk:Nat}(H:∀b o,b∉ys->s.heap.get? b=some o->h'.get? b=some o)(L:s.heap.objs.size<=h'.objs.size):Step J c s c {s with heap:=h',toks:=tk} (·∈ys):=R.other (·∈ys) (λ b o e m=>H b o m e) (λ b U=>⟨(R.eB b (j b U)).1,(R.eB b (j b U)).2.2.1,(R.eB b (j b U)).2.2.2,j b U⟩) L rfl rfl
noncomputable def wC(c:Vw)(h:Heap)(b:Addr):Prop:=¬c.N b/\∃o,h.get? b=some o/\(o.cls= .type "list"\/o.cls= .type "tuple")
theorem wC.step{c G:Vw}{s s':Shared}{W:Addr->Prop}{b:Addr}(f:wC c s.heap b)(S:Step J c s G s' W):wC G s'.heap b/\∀o,s.heap.get? b=some o->s'.heap.get? b=some o:=by
 obtain⟨z,o,e,C⟩:=f
 have U:=S.carry.seq b o e z C
 exact⟨⟨λ t=>z (S.carry.yc b (cD e) t),o,U,C⟩,λ M q=>by rw[e]at q;obtain rfl:=aM q;exact U⟩
theorem SeqAt.JC{T:String}{a:Addr}{g:aL}(x:SeqAt h T a g)(j:T="list"\/T="tuple")(z:¬c.N a):wC c h a:=by
 obtain⟨n,e⟩:=x
 exact⟨z,_,e,by rcases j with rfl|rfl<;>simp⟩
theorem B9{u:aP}{I:Addr}{x:Value}{Q:Unit->Shared->Prop}(H:JB false u=true)(q:Q () s):wpAny J.ax A (letOwnedTupleGo u (.ref I) x) Q E s:=by
 induction u using PySem.Expr.casesOn<;>first|exact nf H|exact aA q
theorem dm.walks{I:Addr}{fp wr ys:List Addr}{n:Nat}{P:Nat->Value->Prop}{St:Nat->Heap->Prop}(W:Walks J.prog J.w A I fp wr n P St)(a:∀b∈wr,b∈ys)(vs:ar)(m:n=vs.length):dm J A false I ys vs (λ D=>True) (λ i c h=>St i h/\(∀j x v,P j x->vs[j]? =some v->aD c h v x)/\∀b∈fp,b∈ys\/wC c h b) (λ i x c h=>P i x/\St (i+1) h/\(∀j x v,P j x->vs[j]? =some v->aD c h v x)/\∀b∈fp,b∈ys\/wC c h b)where
 keep:=λ i c s N s' W' R t ⟨st,hp,r⟩ S k=>by
  refine⟨W.frame i _ _ st λ b U o e=> ?_,λ j x v q e=>(hp j x v q e).carry S.carry,λ b U=>(r b U).imp id λ f=>(f.step S).1⟩
  rcases r b U with d|f
  ·exact S.lu R (t b d) (k b d) e
  ·exact(f.step S).2 o e
 item:=λ i c s Q E hi R t ⟨st,hp,r⟩ D g=>by
  refine aW (λ u=>W.item i s _ u (m▸hi) st λ v h' tk M C H L=> ?_)
  have S:=jW (tk:=tk) R t (λ b o l e=>H b o (λ q=>l (a b q)) e) L
  exact g v _ S ⟨M,C,λ j x w q e=>(hp j x w q e).carry S.carry,λ b U=>(r b U).imp id λ f=>(f.step S).1⟩
 go:=λ i v y x c s Q E G z R t ⟨M,st,hp,r⟩ g=>B9 z (g s (.refl R) (hp i x v M G) ⟨st,hp,r⟩)
 done:=λ c s Q E R t ⟨st,hp,r⟩ D g=>by
  refine aW (λ u=>W.done s _ u (m▸st) λ h' tk H L=> ?_)
  exact g _ (jW (tk:=tk) R t (λ b o l e=>H b o (λ q=>l (a b q)) e) L)
 self:=λ i c s Q E st q=>W.self i s Q E st.1 q
theorem ay.at{vs:ar}{xs:aL}{i:Nat}{v:V}{x:Value}(r:ay c h vs xs)(n:vs[i]? =some v)(I:xs[i]? =some x):aD c h v x:=by
 obtain⟨y,M,u⟩:=r.get n
 rw[M]at I
 obtain rfl:=aM I
 exact u
theorem dm.M3{I:Addr}{fp wr ys:List Addr}{n:Nat}{P:Nat->Array Value->Prop}{St:Nat->Heap->Prop}{N:Nat->Addr->Heap->Prop}(W:WalksU J.prog J.w A I fp wr n P St N)(a:∀b∈wr,b∈ys)(vs:ar)(m:n=vs.length):dm J A true I ys vs (λ D=>True) (λ i c h=>St i h/\(∀j x v,P j x->vs[j]? =some v->∃ws,v= .tuple ws/\ay c h ws x.toList)/\∀b∈fp,b∈ys\/wC c h b) (λ i x c h=>(∃T vals,x= .ref T/\P i vals/\h.IsTuple T vals/\N i T h)/\(∀j x v,P j x->vs[j]? =some v->∃ws,v= .tuple ws/\ay c h ws x.toList)/\∀b∈fp,b∈ys\/wC c h b)where
 keep:=λ i c s c' s' W' R t ⟨st,hp,r⟩ S nw=>by
  refine⟨W.frame i _ _ st λ b U o e=> ?_,λ j x v q e=>let⟨ws,M,u⟩:=hp j x v q e;⟨ws,M,u.carry S.carry⟩,λ b U=>(r b U).imp id λ f=>(f.step S).1⟩
  rcases r b U with y|f
  ·exact S.lu R (t b y) (nw b y) e
  ·exact(f.step S).2 o e
 item:=λ i c s Q E hi R t ⟨st,hp,r⟩ D g=>by
  refine aW (λ L=>W.item i s _ L (m▸hi) st λ T vals h' tk G d hm H C=> ?_)
  have S:=jW (tk:=tk) R t (λ b o l e=>H b o (λ q=>l (a b q)) e) C
  exact g _ _ S ⟨⟨T,vals,rfl,G,d,hm⟩,λ j x w q e=>let⟨ws,M,u⟩:=hp j x w q e;⟨ws,M,u.carry S.carry⟩,λ b U=>(r b U).imp id λ f=>(f.step S).1⟩
 go:=λ i v gR x c s Q E hv z R t ⟨⟨T,vals,hx,G,d,hm⟩,hp,r⟩ g=>by
  subst hx
  induction gR using PySem.Expr.casesOn with
  |Tuple elts k pos=>
   refine aW (λ L=>W.go elts k pos i T s _ L hm λ h' st H C=> ?_)
   have S:=jW (tk:=s.toks) R t (λ b o l e=>H b o (λ q=>l (a b q)) e) C
   have p:∀j x v,P j x->vs[j]? =some v->∃ws,v= .tuple ws/\ay c h' ws x.toList:=λ j x w q e=>let⟨ws,M,u⟩:=hp j x w q e;⟨ws,M,u.carry S.carry⟩
   obtain⟨ws,M,u⟩:=p i vals v G hv
   exact g _ S ⟨ws,T,vals,M,rfl,d.at λ o e=>H T o (W.apart i T _ hm) e,u⟩ ⟨st,p,λ b U=>(r b U).imp id λ f=>(f.step S).1⟩
  |_=>first|exact nf z|exact nn z|subst z
 done:=λ c s Q E R t ⟨st,hp,r⟩ D g=>by
  refine aW (λ L=>W.done s _ L (m▸st) λ h' tk H C=> ?_)
  exact g _ (jW (tk:=tk) R t (λ b o l e=>H b o (λ q=>l (a b q)) e) C)
 self:=λ i c s Q E st q=>W.self i s Q E st.1 q
inductive Ld(J:Cx)(A:Around)(c:Vw)(s:Shared)(I a:Addr)(ws:ar)(It:Heap->Addr->Nat->Prop):Prop
 |mk (fp:List Addr) (P:Nat->Value->Prop) (St:Nat->Heap->Prop) (n:Nat) (W:Walks J.prog J.w A I fp [I] n P St) (hn:n=ws.length) (st:∀j,It s.heap a j->St j s.heap) (ts:∀j h,St j h->It h a j) (r:∀(j:Nat) x v,P j x->ws[j]? =some v->aD c s.heap v x):Ld J A c s I a ws It
theorem dm.rests{I:Addr}{i:Nat}{ws:ar}{g:Mem->Prop}{It:Heap->Addr->Nat->Prop}(at':∀h h' a j,(∀o,h.get? I=some o->h'.get? I=some o)->It h a j->It h' a j)(R:∀c s,Rel J c s->i<c.Y.n->I∈c.y->g c.Y->Ld J A c s I (c.ρ i) ws It)(self:∀a j(s:Shared)(Q:dR)(E:dR),It s.heap a j->Q (.ref I) s->wpAny J.ax A (pyIter (.ref I)) Q E s):dm J A false I [I] ws g (λ j c h=>It h (c.ρ i) j/\i<c.Y.n/\I∈c.y) (λ j x c h=>(∀v,ws[j]? =some v->aD c h v x)/\It h (c.ρ i) (j+1)/\i<c.Y.n/\I∈c.y)where
 keep:=λ j c s N s' W' R t st S m=>⟨by
  rw[S.carry.ρ i st.2.1]
  exact at' _ _ _ _ (λ o e=>S.lu R st.2.2 (m I (.head _)) e) st.1,ah st.2.1 S.carry.n,S.y I st.2.2⟩
 item:=λ j c s Q E b r t st g T=>by
  obtain⟨fp,P,St,n,W,rfl,M,C,l⟩:=R c s r st.2.1 st.2.2 g
  refine aW (λ u=>W.item j s _ u b (M j st.1) λ v h' tk G z H L=> ?_)
  have S:=jW (ys:=[I]) (tk:=tk) r t H L
  exact T v _ S ⟨λ w f=>(l j v w G f).carry S.carry,C _ _ z,st.2⟩
 go:=λ k v p x c s Q E d y R t st T=>B9 y (T s (.refl R) (st.1 v d) st.2)
 done:=λ c s Q E r t st g T=>by
  obtain⟨fp,P,St,n,W,rfl,M,C,l⟩:=R c s r st.2.1 st.2.2 g
  exact aW (λ u=>W.done s _ u (M _ st.1) λ h' tk H L=>T _ (jW (ys:=[I]) (tk:=tk) r t H L))
 self:=λ j c s Q E st q=>self _ j s Q E st.1 q
theorem Rel.FX(R:Rel J c s){i:Nat}{I:Addr}(hi:i<c.Y.n)(l:I∈c.y)(hd:c.Y.f i≠.dead)(A:c.fp i=[c.ρ i]):c.ρ i≠I:=λ q=>(R.eB I l).2.2.1 (Rel.di ⟨hi,hd⟩ (by rw[A,q];exact .head _))
theorem dm.Ca{I:Addr}{i:Nat}(r:A.handled=none)(vs:ar):dm J A false I [I] vs (λ Y=>Y.f i= .list vs) (λ j c h=>h.IsListIter I (c.ρ i) j/\i<c.Y.n/\I∈c.y) (λ j x c h=>(∀v,vs[j]? =some v->aD c h v x)/\h.IsListIter I (c.ρ i) (j+1)/\i<c.Y.n/\I∈c.y):=dm.rests (It:=λ h a j=>h.IsListIter I a j) (λ D D D D H st=>st.at H) (λ c s R hi l g=>by
  have t:=R.obj i hi
  rw[g]at t
  obtain⟨u,T,e,m⟩:=t
  exact⟨_,_,_,_,Walks.list (prog:=J.prog) (w:=J.w) r I (c.ρ i) (R.FX hi l (by rw[g];nofun) u) T.toArray,m.length.symm,λ j st=>⟨st,e.isList⟩,λ j h st=>st.1,λ j x v L n=>m.at n (ib.symm.trans L)⟩) λ a j s Q E st q=>wpAny_pyIter_listiter st q
theorem dm.kE{I:Addr}{i:Nat}(d:A.handled=none)(bC:List (Int×V))(ep:Nat):dm J A false I [I] (bC.map (·.2)) (λ Y=>Y.f i= .dict bC ep) (λ j c h=>h.IsValIter I (c.ρ i) j bC.length ep/\i<c.Y.n/\I∈c.y) (λ j x c h=>(∀v,(bC.map (·.2))[j]? =some v->aD c h v x)/\h.IsValIter I (c.ρ i) (j+1) bC.length ep/\i<c.Y.n/\I∈c.y):=dm.rests (It:=λ h a j=>h.IsValIter I a j bC.length ep) (λ D D D D H st=>st.at H) (λ c s R hi o g=>by
  have t:=R.obj i hi
  rw[g]at t
  obtain⟨L,U,b,m⟩:=t
  have l:=m.vals
  refine⟨_,_,_,_,Walks.dictValues (prog:=J.prog) (w:=J.w) d I (c.ρ i) (R.FX hi o (by rw[g];nofun) L) U ep,l.1.symm.trans (aX (λ x:Int×V=>x.2)).symm,λ j st=>⟨l.1▸st,b⟩,λ j h st=>l.1▸st.1,λ j x v u n=> ?_⟩
  obtain⟨k,u⟩:=u
  obtain⟨p,hp,rfl⟩:=cB.mp ((gN ..).symm.trans n)
  obtain⟨f,r,e⟩:=l.2 j p.1 p.2 hp
  rw[u]at r
  obtain⟨rfl,rfl⟩:=Prod.mk.inj (aM r)
  exact e) λ a j s Q E st q=>wpAny_pyIter_valiter st q
theorem DF{k:Int}{v:Value}(H:(intKind J.prog J.w).is k v=true):aD c h (.int k) v:=by
 have H:Value.isInt k v=true:=H
 induction v using Value.casesOn with
 |int i t=>exact⟨t,by rw[show i=k from bh H]⟩
 |_=>exact nf H
theorem dm.PF{I:Addr}{i:Nat}(d:A.handled=none)(ks:List Int)(ep:Nat):dm J A false I [I] (ks.map .int) (λ Y=>∃bC,Y.f i= .dict bC ep/\bC.map (·.1)=ks) (λ j c h=>h.IsKeyIter I (c.ρ i) j ks.length ep/\i<c.Y.n/\I∈c.y) (λ j x c h=>(∀v,(ks.map V.int)[j]? =some v->aD c h v x)/\h.IsKeyIter I (c.ρ i) (j+1) ks.length ep/\i<c.Y.n/\I∈c.y):=dm.rests (It:=λ h a j=>h.IsKeyIter I a j ks.length ep) (λ D D D D H st=>st.at H) (λ c s R hi o g=>by
  obtain⟨bC,g,rfl⟩:=g
  have t:=R.obj i hi
  rw[g]at t
  obtain⟨L,U,b,m⟩:=t
  have l:=m.vals
  have e:=l.1.symm.trans (aX (λ x:Int×V=>x.1)).symm
  refine⟨_,_,_,_,Walks.dictKeys (prog:=J.prog) (w:=J.w) d I (c.ρ i) (R.FX hi o (by rw[g];nofun) L) U ep,e.trans (aX V.int).symm,λ j st=>⟨e▸st,b⟩,λ j h st=>e▸st.1,λ j x v u n=> ?_⟩
  obtain⟨k,y,u,H⟩:=u
  obtain⟨z,M,rfl⟩:=cB.mp ((gN ..).symm.trans n)
  obtain⟨p,hp,rfl⟩:=cB.mp ((gN ..).symm.trans M)
  obtain⟨f,r,D⟩:=l.2 j p.1 p.2 hp
  rw[u]at r
  obtain⟨rfl,rfl⟩:=Prod.mk.inj (aM r)
  exact DF H) λ a j s Q E st q=>wpAny_pyIter_keyiter st q
inductive Src(J:Cx)(c:Vw)(s:Shared)(Q:Bool×ar×(Mem->Prop)->Mem->Prop):dR
 |mk (I:Addr) (ys:List Addr) (St:Nat->Vw->Heap->Prop) (Md:Nat->Value->Vw->Heap->Prop) (x:Bool×ar×(Mem->Prop)) (c':Vw) (s':Shared) (S:Step J c s c' s' cZ) (hy:∀b∈ys,b∈c'.y/\s.heap.objs.size<=b) (t:∀A:Around,A.handled=none->dm J A x.1 I ys x.2.1 x.2.2 St Md) (st:St 0 c' s'.heap) (q:Q x c'.Y):Src J c s Q (.ref I) s'
theorem Src.after{c c₁:Vw}{s p:Shared}{Q:Bool×ar×(Mem->Prop)->Mem->Prop}{it:Value}{s':Shared}(S:Step J c s c₁ p cZ)(h:Src J c₁ p Q it s'):Src J c s Q it s':=by
 obtain⟨I,ys,St,w,x,G,D,l,j,t,st,q⟩:=h
 exact⟨I,ys,St,w,x,G,_,S.trans l,λ b U=>⟨(j b U).1,aa S.size (j b U).2⟩,t,st,q⟩
theorem AK(R:Rel J c s)(o:Obj)(t:Nat):Step J c s (c.qS [s.heap.objs.size]) {s with heap:=s.heap.push o,toks:=t} cZ:=have z:(s.heap.push o).objs.size=s.heap.objs.size+1:=cf ..
 R.vY [s.heap.objs.size] (λ D D e=>bt _ e) (z▸dC _) rfl rfl λ b U=>(cR.mp U).symm▸⟨ai _,by exact z▸bF _⟩
theorem Src.push(R:Rel J c s)(o:Obj)(tk:Nat){x:Bool×ar×(Mem->Prop)}{St:Nat->Vw->Heap->Prop}{p:Nat->Value->Vw->Heap->Prop}{Q:Bool×ar×(Mem->Prop)->Mem->Prop}(q:Q x c.Y)(t:∀A:Around,A.handled=none->dm J A x.1 s.heap.objs.size [s.heap.objs.size] x.2.1 x.2.2 St p)(st:Step J c s (c.qS [s.heap.objs.size]) {s with heap:=s.heap.push o,toks:=tk} cZ->s.heap.objs.size∈(c.qS [s.heap.objs.size]).y->St 0 (c.qS [s.heap.objs.size]) (s.heap.push o)):Src J c s Q (.ref s.heap.objs.size) {s with heap:=s.heap.push o,toks:=tk}:=⟨_,[s.heap.objs.size],St,p,x,_,_,AK R o tk,λ b U=>cR.mp U▸⟨.head _,ai _⟩,t,st (AK R o tk) (.head _),q⟩
theorem sJ(n:Nat):Builtin.Range.rangeSize 0 (n:Int) 1=n:=by
 refine(?_:(if(0:Int)<(n:Int)then((n:Int)-0-1)/1+1 else 0)=(n:Int))
 by_cases h:(0:Int)<(n:Int)
 ·rw[aw h,Int.ediv_one,Int.sub_zero,Int.sub_add_cancel]
 ·rw[av h,Nat.eq_zero_of_not_pos λ p=>h (mF.mpr p)];rfl
theorem yO{n:Nat}(w:(n:Int)<=1000000):Builtin.Range.small 0 n 1=true:=by
 have f:Builtin.Range.rangeFitsLong (n:Int)=true:=kS (af (Int.le_trans (by decide) (dE n))) (af (Int.lt_of_le_of_lt w (by decide)))
 unfold Builtin.Range.small
 rw[sJ,f]
 refine(?_:(_||Builtin.Range.rangeFitsLong ((n:Int)+0))=true)
 rw[Int.add_zero,f,Bool.or_true]
theorem AL{n:Nat}{j:Nat}{v:V}(h:(lD 0 n 1)[j]? =some v):v= .int (0+j*1):=by
 unfold lD at h
 rw[gN]at h
 obtain⟨k,H,rfl⟩:=cB.mp h
 have s:=rX H
 rw[bR]at s
 rw[aM (H.symm.trans (List.getElem?_range s))]
theorem DH(R:Rel J c s){r:Addr}{n:Nat}{t u v:Tok}(h:IsRange s.heap r 0 n 1 t u v)(m:(n:Int)<=1000000){Q:Bool×ar×(Mem->Prop)->Mem->Prop}(q:Q (false,lD 0 n 1,λ D=>True) c.Y):wpAny J.ax A (pyIter (.ref r)) (Src J c s Q) E s:=wpAny_pyIter_range h (yO m) (Src.push R {cls:= .type "range_iterator",data:= .fields #[rawInt 0,rawInt (Builtin.Range.rangeSize 0 n 1),rawInt 1]} s.toks (x:=(false,lD 0 n 1,λ D=>True)) q (λ A' f=>dm.walks (Walks.range f s.heap.objs.size 0 1 (Builtin.Range.rangeSize 0 n 1).toNat) (λ b U=>U) (lD 0 n 1) (aX ..|>.trans bR).symm) λ S d=>⟨by
   refine(?_:Heap.get? _ _=_)
   rw[bM _ rfl,<-rangeSize_toNat]
   simp,λ j x w p e=>by
   obtain⟨l,rfl⟩:=p
   rw[AL e]
   exact⟨l,rfl⟩,λ b U=> .inl U⟩)
theorem vg{l:aj}(N:∀y∈l,y<256){j:Nat}{c₀:UInt8}(h:(bP l)[j]? =some c₀):l[j]? =some c₀.toNat:=by
 unfold bP at h
 rw[ib,gN]at h
 obtain⟨a,z,rfl⟩:=cB.mp h
 exact z▸aE some ((UInt8.toNat_ofNat' ..).trans (Nat.mod_eq_of_lt (N a (vT z)))).symm
theorem oG{vs:ar}{g:aL}(m:ay c h vs g)(j:Nat)(x:Value)(v:V)(I:g.toArray[j]? =some x)(n:vs[j]? =some v):aD c h v x:=m.at n (ib.symm.trans I)
theorem Cb(R:Rel J c s){T:String}{a:Addr}{g:aL}{vs:ar}{o:Obj}{St:Nat->Heap->Prop}{Q:Bool×ar×(Mem->Prop)->Mem->Prop}(j:T="list"\/T="tuple")(h:SeqAt s.heap T a g)(z:¬c.N a)(m:ay c s.heap vs g)(q:Q (false,vs,λ D=>True) c.Y)(W:a≠s.heap.objs.size->∀A:Around,A.handled=none->Walks J.prog J.w A s.heap.objs.size [s.heap.objs.size,a] [s.heap.objs.size] g.toArray.size (λ i v=>g.toArray[i]? =some v) St)(st:SeqAt (s.heap.push o) T a g->St 0 (s.heap.push o)):Src J c s Q (.ref s.heap.objs.size) {s with heap:=s.heap.push o}:=have ne:a≠s.heap.objs.size:=let⟨_,e⟩:=h;az (cD e)
 Src.push R o s.toks (x:=(false,vs,λ D=>True)) q (λ A' w=>dm.walks (W ne A' w) (λ b U=>U) vs m.length.symm) λ S t=>have E:=h.carry S.carry j z
  ⟨st E.1,oG (m.carry S.carry),λ b U=>by cases U with
   |head=>exact .inl (.head _)
   |tail _ U=>cases U with
    |head=>exact .inr (E.1.JC j E.2)
    |tail _ U=>exact absurd U dt⟩
theorem FY(ok:bA J)(R:Rel J c s){i:Nat}{r:Bool×ar×(Mem->Prop)}(hi:i<c.Y.n)(h:sv i (c.Y.f i)=some r){Q:Bool×ar×(Mem->Prop)->Mem->Prop}(q:Q r c.Y):wpAny J.ax A (pyIter (.ref (c.ρ i))) (Src J c s Q) E s:=by
 have t:=R.obj i hi
 generalize e:c.Y.f i=o at t h
 induction o using O.casesOn with
 |list vs=>
  obtain⟨u,g,x,m⟩:=t
  obtain rfl:=aM h
  exact wpAny_pyIter_list x.isList (Src.push R _ s.toks q (λ A' w=>dm.Ca (i:=i) w vs) λ S j=>⟨⟨_,bM _ rfl,rfl,rfl⟩,hi,j⟩)
 |dict bC ep=>
  obtain⟨u,U,v,m⟩:=t
  obtain rfl:=aM h
  have hd:(c.ρ i==sysModules)=false:=rt R (R.high _ (Rel.di ⟨hi,by rw[e];nofun⟩ (by exact u▸.head _))).1 ok.sys
  have C:(bC.map (·.1)).length=U.length:=(aX ..).trans m.vals.1
  exact wpAny_pyIter_dict (knd:=intKind J.prog J.w) hd v (Src.push R _ s.toks q (λ A' w=>dm.PF (i:=i) w (bC.map (·.1)) ep) λ S j=>⟨by rw[C];exact⟨_,bM _ rfl,rfl,rfl⟩,hi,j⟩)
 |_=>exact nn h
theorem AM(ok:bA J)(R:Rel J c s){v:V}{x:Value}{r:Bool×ar×(Mem->Prop)}(M:aD c s.heap v x)(h:jw c.Y v=some r){Q:Bool×ar×(Mem->Prop)->Mem->Prop}(q:Q r c.Y):wpAny J.ax A (pyIter x) (Src J c s Q) E s:=by
 induction v using Mine.V.casesOn with
 |list vs=>
  obtain rfl:=aM h
  obtain⟨a,g,rfl,U,y,f⟩:=M
  exact wpAny_pyIter_list U.isList (Cb R (.inl rfl) U y f q (λ ne A' m=>Walks.list m _ a ne g.toArray) λ U=>⟨⟨_,bM _ rfl,rfl,rfl⟩,U.isList⟩)
 |tuple vs=>
  obtain rfl:=aM h
  obtain⟨a,g,rfl,U,y,f⟩:=M
  exact wpAny_pyIter_tuple U.dz (Cb R (.inr rfl) U y f q (λ ne A' m=>Walks.tuple m _ a ne g.toArray) λ U=>⟨⟨_,bM _ rfl,rfl,rfl⟩,U.dz⟩)
 |str l=>
  obtain rfl:=aM h
  obtain⟨t,rfl⟩:=M
  refine wpAny_pyIter_str λ o St W st=>Src.push R o s.toks q (λ A' m=>dm.walks (W A' m) (λ b G=>G) (l.map λ k=> .str [k]) (by simp[strOf])) λ S d=>⟨st,λ j z w p e=> ?_,λ b G=> .inl G⟩
  obtain⟨k,u,H,rfl⟩:=p
  have H:l[j]? =some k:=by exact ib.symm.trans H
  rw[gN,H]at e
  exact aM e▸⟨u,rfl⟩
 |bytes l=>
  obtain rfl:=aM h
  obtain⟨N,t,rfl⟩:=M
  refine KBw.pyIter_bytes (Src.push R _ s.toks q (λ A' m=>dm.walks (KBw.walks m s.heap.objs.size (bP l) t) (λ b G=>G) (l.map λ(k:Nat)=>V.int (k:Int)) (by simp[bP])) λ S d=>⟨⟨_,bM _ rfl,rfl,rfl⟩,λ j z w p e=> ?_,λ b G=> .inl G⟩)
  obtain⟨k,u,H,rfl⟩:=p
  rw[gN,vg N H]at e
  exact aM e▸⟨u,rfl⟩
 |ref i=>exact M.2▸FY ok R M.1 h q
 |kE i=>exact M.elim
 |it I vs=>exact M.elim
 |_=>exact nn h
theorem mc{h h':Heap}{a:Addr}{b:Array UInt8}{t:Tok}{i:Nat}(y:KBw.IsBytesIter h a b t i)(k:∀o,h.get? a=some o->h'.get? a=some o):KBw.IsBytesIter h' a b t i:=let⟨o,e,r⟩:=y;⟨o,k o e,r⟩
section
variable{prog:Program}{w:World}{b:Array UInt8}{t:Tok}
theorem AN{it:Addr}{i:Nat}{c:UInt8}{Q:dR}(hit:KBw.IsBytesIter s.heap it b t i)(I:b[i]? =some c)(g:∀h',KBw.IsBytesIter h' it b t (i+1)->Heap.SameBut it s.heap h'->Q (.int (c.toNat:Int) s.toks) {s with heap:=h',toks:=s.toks+1}):wpAny (model prog w) A (Builtin.SmallTypes.nextOf (.ref it)) Q E s:=by
 obtain⟨o,p,C,hd⟩:=id hit
 refine ag (rR (name:=PySem.Str.ofString "__next__") (KBw.iter_typeIs hit) KBw.slot_next (mL KBw.slot_next (KBw.iter_typeIs hit) KBw.entry_next ?_ (KBw.args_next _)))
 show wpAny _ _ (field (.ref it) 0>>=_) _ _ s
 refine ag (dW p hd (x:= .bytes b t) rfl ?_)
 refine(?_:wpAny _ _ (if(Value.bytes b t==Value.none)=true then _ else _) _ _ s)
 refine(av (show¬((Value.bytes b t==Value.none)=true) from kW)).symm▸?_
 show wpAny _ _ (field (.ref it) 1>>=_) _ _ s
 refine ag (dW p hd (x:= .int i 0) rfl ?_)
 refine ag (gv (a:=b) rfl ?_)
 simp only[Int.toNat_natCast,I]
 refine ag (wpAny_setField p hd (by exact ai _) (ag (wpAny_mkInt (aA ⟨_,rfl,aA (g _ ?_ (Heap.SameBut.update ..))⟩))))
 exact⟨_,Heap.get?_update_self _ p (Obj.isFreed_of_fields (Obj.data_mapFields hd _)),(Obj.cls_mapFields ..).trans C,by rw[Obj.data_mapFields hd];rfl⟩
theorem DJ{it:Addr}{i:Nat}{Q:dR}(r:A.handled=none)(hit:KBw.IsBytesIter s.heap it b t i)(I:b[i]? =none)(n:∀h' e,Heap.ExtBut it s.heap h'->(∃o,h'.get? e=some o/\o.cls= .type "StopIteration")->E (.ref e) {s with heap:=h'}):wpAny (model prog w) A (Builtin.SmallTypes.nextOf (.ref it)) Q E s:=by
 obtain⟨o,p,C,hd⟩:=id hit
 refine ag (rR (name:=PySem.Str.ofString "__next__") (KBw.iter_typeIs hit) KBw.slot_next (mL KBw.slot_next (KBw.iter_typeIs hit) KBw.entry_next ?_ (KBw.args_next _)))
 show wpAny _ _ (field (.ref it) 0>>=_) _ _ s
 refine ag (dW p hd (x:= .bytes b t) rfl ?_)
 refine(?_:wpAny _ _ (if(Value.bytes b t==Value.none)=true then _ else _) _ _ s)
 refine(av (show¬((Value.bytes b t==Value.none)=true) from kW)).symm▸?_
 show wpAny _ _ (field (.ref it) 1>>=_) _ _ s
 refine ag (dW p hd (x:= .int i 0) rfl ?_)
 refine ag (gv (a:=b) rfl ?_)
 simp only[Int.toNat_natCast,I]
 refine ag (wpAny_rule (ag (wpAny_setField p hd (by exact Nat.zero_lt_succ _) ?_)))
 show wpAny _ _ (newExc (.type "StopIteration") []>>=_) _ _ _
 refine ag ?_
 simp only[newExc,newTuple]
 refine ag (nV ?_ (by size_fits))
 refine ag (m:=firstArgMember _ _) (gv (a:=Value.none) (by first|rfl|(simp only[firstArgMember];rfl)) ?_)
 refine nV ?_ (by size_fits)
 delta raiseNew
 refine ag (wpAny_handled ?_)
 first|refine(show A.in1.handled=none from r).symm▸?_|rw[r]
 refine ag (aA (wpAny_throw ?_))
 exact n _ _ (((Heap.SameBut.update ..).extBut.push _).push _) ⟨_,bM _ rfl,rfl⟩
inductive ZB(z TI TO i1 i2 l1:Addr)(xs:Array Value)(b:Array UInt8)(t:Tok)(f0:Value)(k:Nat)(h:Heap):Prop
 |mk (u v:Value) (hz:IsZip h z TI TO f0) (Cc:IsPair h TI (.ref i1) (.ref i2)) (Ce:IsPair h TO u v) (h1:h.IsListIter i1 l1 k) (h2:KBw.IsBytesIter h i2 b t k) (hl:h.IsList l1 xs):ZB z TI TO i1 i2 l1 xs b t f0 k h
theorem JD{z TI M r i l1:Addr}{k:Nat}{xs:Array Value}{x:Value}{c:UInt8}{Q:dR}(D:ZipApart z TI M r i l1 l1)(Z:ZB z TI M r i l1 xs b t .none k s.heap)(hx:xs[k]? =some x)(hy:b[k]? =some c)(hQ:∀h',ZB z TI M r i l1 xs b t (rawInt s.heap.objs.size) (k+1) h'->IsPair h' s.heap.objs.size x (.int (c.toNat:Int) s.toks)->(∀c o,c≠z->c≠M->c≠r->c≠i->s.heap.get? c=some o->h'.get? c=some o)->Q (.ref s.heap.objs.size) {s with heap:=h',toks:=s.toks+1}):wpAny (model prog w) A (Builtin.«zip.__next__» ⟨[.ref z],[]⟩) (λ fin s'=>∃v,fin= .done (.ret v)/\Q v s') E s:=by
 obtain⟨a0,b0,a,g,Ce,h1,h2,T⟩:=Z
 show wpAny _ _ (field (.ref z) 2>>=_) _ _ _
 refine ag (dW a rfl (x:= .bool false) rfl ?_)
 show wpAny _ _ (field (.ref z) 3>>=_) _ _ _
 refine ag (dW a rfl (x:= .ref TI) rfl ?_)
 refine ag (wpAny_seqItems g rfl ?_)
 show wpAny _ _ (Builtin.SmallTypes.ownedTupleIsFree (.ref z)>>=_) _ _ _
 refine ag ?_
 refine ag (dW a rfl (x:= .none) rfl (aA ?_))
 simp only[if_true]
 refine ag (wpAny_rule ?_)
 refine ag (dW a rfl (x:= .ref M) rfl ?_)
 refine ag (nW a (by exact Nat.zero_lt_succ _) λ d9 H d=> ?_)
 replace H:IsZip d9 z TI M .ellipsis:=H
 refine ag ?_
 simp only[List.zipIdx_cons,List.zipIdx_nil,mE,List.forIn_nil]
 refine ag (ag (wpAny_onRaise ?_))
 show wpAny _ _ (Builtin.SmallTypes.nextOf (.ref r)>>=_) _ _ _
 refine ag (wpAny_nextOf_list_item (h1.extBut d.extBut D.i1z) (T.extBut d.extBut D.l1z) hx λ b8 Le f=>aA ?_)
 have m:IsPair b8 M a0 b0:=f.extBut _ _ D.TOi1 (d.extBut _ _ D.TOz Ce)
 refine ag (wpAny_seqItems m rfl ?_)
 refine ag (wpAny_updateSeq_pair m λ jX L h=> ?_)
 replace L:IsPair jX M x b0:=L
 refine ag (wpAny_letGo (aA ?_))
 refine ag (ag (wpAny_onRaise ?_))
 show wpAny _ _ (Builtin.SmallTypes.nextOf (.ref i)>>=_) _ _ _
 refine ag (AN (mc h2 λ o e=>h.extBut _ _ D.TOi2.symm (f.extBut _ _ D.i12.symm (d.extBut _ _ D.i2z e))) hy λ jB PH U=>aA ?_)
 have FZ:IsPair jB M x b0:=U.extBut _ _ D.TOi2 L
 refine ag (wpAny_seqItems FZ rfl ?_)
 refine ag (wpAny_updateSeq_pair FZ λ q N G=> ?_)
 replace N:IsPair q M x (.int (c.toNat:Int) s.toks):=N
 refine ag (wpAny_letGo (aA (aA ?_)))
 refine ag (wpAny_seqItems N rfl ?_)
 refine ag (wpAny_newTuple ?_)
 have hsz:q.objs.size=s.heap.objs.size:=by rw[G.1,U.1,h.1,f.1,d.1]
 have Lf:IsZip q z TI M .ellipsis:=G.extBut _ _ D.TOz.symm (U.extBut _ _ D.i2z.symm (h.extBut _ _ D.TOz.symm (f.extBut _ _ D.i1z.symm H)))
 have PJ:∀c o,c≠z->c≠M->c≠r->c≠i->s.heap.get? c=some o->q.get? c=some o:=λ c o n I j l e=>G.extBut _ _ I (U.extBut _ _ l (h.extBut _ _ I (f.extBut _ _ j (d.extBut _ _ n e))))
 have PK:q.IsListIter r l1 (k+1):=((Le.extBut h.extBut D.TOi1.symm).extBut U.extBut D.i12).extBut G.extBut D.TOi1.symm
 have PL:KBw.IsBytesIter q i b t (k+1):=mc PH λ o e=>G.extBut _ _ D.TOi2.symm e
 have PM:z<q.objs.size:=cD Lf
 show wpAny _ _ (Builtin.SmallTypes.ownedTupleHandOut (.ref z) (.ref q.objs.size)>>=_) _ _ _
 refine ag ?_
 have PN:IsZip (q.push {cls:= .type "tuple",data:= .seq #[x,.int (c.toNat:Int) s.toks]}) z TI M .ellipsis:=bt _ Lf
 refine ag (nW PN (by exact Nat.zero_lt_succ _) λ M4 y Lg=> ?_)
 replace y:IsZip M4 z TI M (rawInt q.objs.size):=y
 refine nW y (by simp) λ p u Lh=> ?_
 replace u:IsZip p z TI M (rawInt q.objs.size):=u
 have C:∀c o,c≠z->q.get? c=some o->p.get? c=some o:=λ c o n e=>Lh.extBut _ _ n (Lg.extBut _ _ n (bt _ e))
 have Li:IsPair p q.objs.size x (.int (c.toNat:Int) s.toks):=Lh.extBut _ _ (Nat.ne_of_gt PM) (Lg.extBut _ _ (Nat.ne_of_gt PM) (bM _ rfl))
 rw[hsz]at u Li
 refine aA ⟨_,rfl,?_⟩
 refine(?_:Q (.ref q.objs.size) _)
 refine hsz.symm▸?_
 have kk:∀c o,c≠z->c≠M->c≠r->c≠i->s.heap.get? c=some o->p.get? c=some o:=λ c o n I j l e=>C c o n (PJ c o n I j l e)
 exact hQ p ⟨_,_,u,kk _ _ D.TIz D.TITO D.TIi1 D.TIi2 g,C _ _ D.TOz N,PK.at λ o e=>C _ o D.i1z e,mc PL λ o e=>C _ o D.i2z e,T.at λ o e=>kk _ o D.l1z D.l1TO D.l1i1 D.l1i2 e⟩ Li kk
theorem M5{z TI M r q l1:Addr}{k:Nat}{xs:Array Value}{Q:Fin->Shared->Prop}(N:A.handled=none)(a:ZipApart z TI M r q l1 l1)(Z:ZB z TI M r q l1 xs b t .none k s.heap)(wI:xs[k]? =none\/b[k]? =none)(u:∀h' e,(∀c o,c≠z->c≠M->c≠r->c≠q->s.heap.get? c=some o->h'.get? c=some o)->(∃o,h'.get? e=some o/\o.cls= .type "StopIteration")->E (.ref e) {s with heap:=h'}):wpAny (model prog w) A (Builtin.«zip.__next__» ⟨[.ref z],[]⟩) Q E s:=by
 obtain⟨a0,b0,i,Cc,Ce,H,h2,C⟩:=Z
 show wpAny _ _ (field (.ref z) 2>>=_) _ _ _
 refine ag (dW i rfl (x:= .bool false) rfl ?_)
 show wpAny _ _ (field (.ref z) 3>>=_) _ _ _
 refine ag (dW i rfl (x:= .ref TI) rfl ?_)
 refine ag (wpAny_seqItems Cc rfl ?_)
 show wpAny _ _ (Builtin.SmallTypes.ownedTupleIsFree (.ref z)>>=_) _ _ _
 refine ag ?_
 refine ag (dW i rfl (x:= .none) rfl (aA ?_))
 simp only[if_true]
 refine ag (wpAny_rule ?_)
 refine ag (dW i rfl (x:= .ref M) rfl ?_)
 refine ag (nW i (by exact Nat.zero_lt_succ _) λ d9 U d=> ?_)
 replace U:IsZip d9 z TI M .ellipsis:=U
 refine ag ?_
 simp only[List.zipIdx_cons,List.zipIdx_nil,mE,List.forIn_nil]
 refine ag (ag (wpAny_onRaise ?_))
 show wpAny _ _ (Builtin.SmallTypes.nextOf (.ref r)>>=_) _ _ _
 cases I:xs[k]?with
 |none=>
  refine ag (wpAny_nextOf_list_end N (H.extBut d.extBut a.i1z) (C.extBut d.extBut a.l1z) I λ L e f he=> ?_)
  obtain⟨l,p,m⟩:=he
  have y:IsZip L z TI M .ellipsis:=f _ _ a.i1z.symm U
  have G:e≠z:=λ x=>by subst x;rw[y]at p;obtain rfl:=aM p;simp at m
  exact nW y (by exact Nat.zero_lt_succ _) λ g D v=>u g e (λ c o n D j D x=>v.extBut _ _ n (f _ _ j (d.extBut _ _ n x))) ⟨l,v.extBut _ _ G p,m⟩
 |some x=>
  have hy:b[k]? =none:=wI.elim (λ h=>nn (h.symm.trans I)) id
  refine ag (wpAny_nextOf_list_item (H.extBut d.extBut a.i1z) (C.extBut d.extBut a.l1z) I λ L Le f=>aA ?_)
  have T:IsPair L M a0 b0:=f.extBut _ _ a.TOi1 (d.extBut _ _ a.TOz Ce)
  refine ag (wpAny_seqItems T rfl ?_)
  refine ag (wpAny_updateSeq_pair T λ g wD v=> ?_)
  refine ag (wpAny_letGo (aA ?_))
  refine ag (ag (wpAny_onRaise ?_))
  show wpAny _ _ (Builtin.SmallTypes.nextOf (.ref q)>>=_) _ _ _
  refine ag (DJ N (mc h2 λ o e=>v.extBut _ _ a.TOi2.symm (f.extBut _ _ a.i12.symm (d.extBut _ _ a.i2z e))) hy λ jB e qB he=> ?_)
  obtain⟨l,p,m⟩:=he
  have Lk:IsZip jB z TI M .ellipsis:=qB _ _ a.i2z.symm (v.extBut _ _ a.TOz.symm (f.extBut _ _ a.i1z.symm U))
  have G:e≠z:=λ x=>by subst x;rw[Lk]at p;obtain rfl:=aM p;simp at m
  exact nW Lk (by exact Nat.zero_lt_succ _) λ fy D qC=>u fy e (λ c o n c2 j c4 x=>qC.extBut _ _ n (qB _ _ c4 (v.extBut _ _ c2 (f.extBut _ _ j (d.extBut _ _ n x))))) ⟨l,qC.extBut _ _ G p,m⟩
end
theorem F2{prog:Program}{w:World}(l:A.handled=none)(z TI M r q l1:Addr)(a:ZipApart z TI M r q l1 l1)(xs:Array Value)(b:Array UInt8)(t:Tok):WalksU prog w A z [z,TI,M,r,q,l1] [z,M,r,q] (min xs.size b.size) (λ i vals=>∃x c tk,xs[i]? =some x/\b[i]? =some c/\vals= #[x,.int (c.toNat:Int) tk]) (λ i h=>ZB z TI M r q l1 xs b t .none i h) (λ i T h=>ZB z TI M r q l1 xs b t (rawInt T) (i+1) h/\T≠z/\T≠M/\T≠r/\T≠q)where
 sub:=λ c C=>by simp at C⊢;rcases C with rfl|rfl|rfl|rfl<;>simp
 frame:=λ i h h' st H=>by
  obtain⟨u,v,U,y,N,I,L,p⟩:=st
  exact⟨u,v,H z (by exact List.mem_cons_self) _ U,H TI (by exact mK _ List.mem_cons_self) _ y,H M (by simp) _ N,I.at λ o e=>H r (by simp) o e,mc L λ o e=>H q (by simp) o e,p.at λ o e=>H l1 (by simp) o e⟩
 item:=λ i s Q E hi st g=>by
  have m:i<xs.size:=ah hi (Nat.min_le_left ..)
  have f:i<b.size:=ah hi (Nat.min_le_right ..)
  obtain⟨u,v,U,y,N,I,L,p⟩:=id st
  have j:s.TypeIs (.ref z) "zip":=⟨_,U,rfl⟩
  have lt:∀{c o},s.heap.get? c=some o->s.heap.objs.size≠c:=λ e=>Nat.ne_of_gt (cD e)
  refine ag (wpAny_attempt (rR (name:=Str.ofString "__next__") j F.slot_zip_next (mL F.slot_zip_next j F.entry_zip_next (JD a st (nT m) (nT f) λ h' Z n H=>aA ?_) (F.args_zip_next_1 _))))
  exact g s.heap.objs.size _ h' _ ⟨_,_,_,nT m,nT f,rfl⟩ ⟨_,n,rfl,_,rfl⟩ ⟨Z,lt U,lt N,(by obtain⟨D,e,D⟩:=I;exact lt e),(by obtain⟨D,e,D⟩:=L;exact lt e)⟩ λ c o C e=>H c o (λ x=>C (by simp[x])) (λ x=>C (by simp[x])) (λ x=>C (by simp[x])) (λ x=>C (by simp[x])) e
 go:=λ elts k pos i T s Q E hm g=>by
  obtain⟨⟨u,v,U,y,N,I,L,p⟩,D⟩:=hm
  exact wpAny_letOwnedTupleGo_zip U λ h' d G=>g h' ⟨u,v,d,G.extBut _ _ a.TIz y,G.extBut _ _ a.TOz N,I.extBut G.extBut a.i1z,mc L λ o e=>G.extBut _ _ a.i2z e,p.extBut G.extBut a.l1z⟩ λ c o C e=>G.extBut _ _ (λ x=>C (by simp[x])) e
 apart:=λ i T h hm j=>by
  obtain⟨D,t1,t2,t3,t4⟩:=hm
  simp at j
  rcases j with rfl|rfl|rfl|rfl
  ·exact t1 rfl
  ·exact t2 rfl
  ·exact t3 rfl
  ·exact t4 rfl
 done:=λ s Q E st g=>by
  obtain⟨u,v,U,D⟩:=id st
  have j:s.TypeIs (.ref z) "zip":=⟨_,U,rfl⟩
  have wI:xs[min xs.size b.size]? =none\/b[min xs.size b.size]? =none:=by
   rcases Nat.le_total xs.size b.size with h|h
   ·exact .inl (by refine(Nat.min_eq_left h).symm▸?_;exact Array.getElem?_eq_none (ai _))
   ·exact .inr (by refine(Nat.min_eq_right h).symm▸?_;exact Array.getElem?_eq_none (ai _))
  refine ag (wpAny_attempt (rR (name:=Str.ofString "__next__") j F.slot_zip_next (mL F.slot_zip_next j F.entry_zip_next (M5 l a st wI λ h' e H he=> ?_) (F.args_zip_next_1 _))))
  obtain⟨o,ho,C⟩:=he
  refine ag (wpAny_isInstance (T:="StopIteration") (b:=true) ⟨o,ho,C⟩ isSubtype_stop ?_)
  exact aA (g _ s.toks λ c o C e=>H c o (λ x=>C (by simp[x])) (λ x=>C (by simp[x])) (λ x=>C (by simp[x])) (λ x=>C (by simp[x])) e)
 self:=λ i s Q E st g=>by
  obtain⟨u,v,U,D⟩:=st
  exact wpAny_pyIter_zip U g
noncomputable abbrev RS(h:Heap)(l1:Addr)(b:Array UInt8)(t:Tok):Heap:=(zipH1 h l1).push {cls:= .type "bytes_iterator",data:= .fields #[.bytes b t,.int 0 0]}
noncomputable abbrev RT(h:Heap)(l1:Addr)(b:Array UInt8)(t:Tok):Heap:=(RS h l1 b t).push {cls:= .type "tuple",data:= .seq #[.ref h.objs.size,.ref (zipH1 h l1).objs.size]}
noncomputable abbrev RU(h:Heap)(l1:Addr)(b:Array UInt8)(t:Tok):Heap:=(RT h l1 b t).push {cls:= .type "tuple",data:= .seq #[.none,.none]}
noncomputable abbrev JE(h:Heap)(l1:Addr)(b:Array UInt8)(t:Tok):Heap:=(RU h l1 b t).push {cls:= .type "zip",data:= .fields #[.none,.bool false,.bool false,.ref (RS h l1 b t).objs.size,.ref (RT h l1 b t).objs.size]}
set_option maxHeartbeats 4000000 in
theorem F3(l1:Addr)(xs:Array Value)(b:Array UInt8)(t:Tok):Meets (Builtin.«zip.__new__» ⟨[.type "zip",.ref l1,.bytes b t],[]⟩) (λ D R s=>s.heap.IsList l1 xs/\R (.ok (.ret (.ref (RU s.heap l1 b t).objs.size))) {s with heap:=JE s.heap l1 b t}):= .of_wp λ prog w A R s h=>by
  obtain⟨hp,g,d,tk,os⟩:=s;obtain⟨z,h⟩:=h
  have l:=sub_zip
  have r:Heap.IsList (Shared.heap ⟨hp,g,d,tk,os⟩) l1 xs:=z
  wp_walk using wpAny_pyIter_list r,KBw.pyIter_bytes
  exact⟨_,rfl,h⟩
theorem JF{prog:Program}{w:World}{l1:Addr}{xs:Array Value}{b:Array UInt8}{t:Tok}{Q:dR}(z:s.heap.IsList l1 xs)(h:∀h',ZB (s.heap.objs.size+4) (s.heap.objs.size+2) (s.heap.objs.size+3) s.heap.objs.size (s.heap.objs.size+1) l1 xs b t .none 0 h'->h'.objs.size=s.heap.objs.size+5->(∀c o,s.heap.get? c=some o->h'.get? c=some o)->Q (.ref (s.heap.objs.size+4)) {s with heap:=h'}):wpAny (model prog w) A (call (.type "zip") [.ref l1,.bytes b t]) Q E s:=by
 refine callType_new F.called_zip (by decide) (F.typeCall_zip_2 _ _) (F.newCall_zip_2 _ _) (λ obj=>F.args_object_init_3 obj _ _) F.entry_zip_new (F3 l1 xs b t) ⟨z,?_⟩
 have k:(zipH1 s.heap l1).objs.size=s.heap.objs.size+1:=cf ..
 have p:(RS s.heap l1 b t).objs.size=s.heap.objs.size+2:=by rw[cf,k]
 have U:(RT s.heap l1 b t).objs.size=s.heap.objs.size+3:=by rw[cf,p]
 have z4:(RU s.heap l1 b t).objs.size=s.heap.objs.size+4:=by rw[cf,U]
 have r:(JE s.heap l1 b t).objs.size=s.heap.objs.size+5:=by rw[cf,z4]
 have C:∀c o,s.heap.get? c=some o->(JE s.heap l1 b t).get? c=some o:=λ c o x=>bt _ (bt _ (bt _ (bt _ (bt _ x))))
 have y:(JE s.heap l1 b t).get? (RU s.heap l1 b t).objs.size=some _:=bM _ rfl
 have m:(JE s.heap l1 b t).get? (RT s.heap l1 b t).objs.size=some _:=bt _ (bM _ rfl)
 have g3:(JE s.heap l1 b t).get? (RS s.heap l1 b t).objs.size=some _:=bt _ (bt _ (bM _ rfl))
 have g2:(JE s.heap l1 b t).get? (zipH1 s.heap l1).objs.size=some _:=bt _ (bt _ (bt _ (bM _ rfl)))
 have g1:(JE s.heap l1 b t).get? s.heap.objs.size=some _:=bt _ (bt _ (bt _ (bt _ (bM _ rfl))))
 have l:(JE s.heap l1 b t).IsList l1 xs:=z.at λ o e=>C _ o e
 refine(?_:_/\_)
 refine z4.symm▸?_
 rw[z4,p,U]at y
 rw[U]at m
 rw[p,k]at g3
 rw[k]at g2
 exact⟨⟨_,y,rfl⟩,h _ ⟨.none,.none,y,g3,m,⟨_,g1,rfl,rfl⟩,⟨_,g2,rfl,rfl⟩,l⟩ r C⟩
noncomputable def jY(J:Cx)(pg:Pg)(d:Nat)(m:ME):Prop:=∀(k:CC)(e:aP)(Q:Bool×ar×(Mem->Prop)->Mem->Prop)(B:ar)(Y:Mem)(A:Around)(E:dR)(c:Vw)(s:Shared)(env:Env),bY 2 k m e=true->wE J pg d m (λ v Y=>opt (jw Y v) λ x=>Q x Y) B Y->At J pg d k B Y A c s env->wpAny J.ax A (eval e env) (λ x p=>wpAny J.ax A (pyIter x) (Src J c s Q) E p) E s
theorem sM(ok:bA J){m:ME}(hm:aI J pg d m)(hp:∀k e,bY 2 k m e=true->bY 0 k m e=true):jY J pg d m:=λ k e Q B Y A E c s env h w T=>(hm k e _ B Y A E c s env (hp k e h) w T).go λ x p c₁ v S r i=>de i λ y j q=>aV (AM (E:=E) ok S.rel r j q) (λ it U L=>L.after S) λ D D z=>z
theorem DK{m:ME}{es:List aP}{n:Nat}{p:Pos}:∀{v:Nat},bY v k m (.Set es n p)=false:=by
 induction m using ME.rec (motive_2:=λ D=>True) (motive_3:=λ D=>True)with
 |_=>first|exact λ{v}=>rfl|exact λ{v}=>Bool.and_false _|trivial
theorem pR{v:Nat}{m:ME}{e:aP}(h:bY v k m e=true)(x:Value):foldedSetIterable e env x=pure x:=by
 induction e using PySem.Expr.casesOn with
 |Set es n p=>exact nf (DK.symm.trans h)
 |_=>rfl
theorem wJ(e:cM J pg){x:Str}{np:Pos}{i:Nat}{p:V->Bool}{Q:dR}(T:At J pg d k B Y A c s env)(h:k.is x i p=true)(q:∀v y,p v=true->aD c s.heap v y->Q y s):wpAny J.ax A (eval (.Name x np) env) Q E s:=by
 have h:=ao h
 have M:=ao h.1
 rw[T.gg]at M
 obtain⟨g,U,u⟩:=vU M.2
 exact wpAny_Name (vc e T M.1 U λ y r=>q g.2 y u r) (i9 h.2)
theorem F4{t:Ty}{v:V}(h:OD t v=true):v= .ty t:=by
 induction v using Mine.V.casesOn with
 |ty u=>exact(show t=u from ae h).symm▸rfl
 |_=>exact nf h
theorem F5{t:Bi}{v:V}(h:SM t v=true):v= .bi t:=by
 induction v using Mine.V.casesOn with
 |bi u=>exact(show t=u from ae h).symm▸rfl
 |_=>exact nf h
theorem c8.no{ws:ar}{ks:List (Str×Value)}(r:c8 c h [] ws ks):ks=[]:=by
 have r:=r.none
 induction ks using List.casesOn with
 |nil=>rfl
 |cons=>exact r.elim
theorem Cg(e:cM J pg){args:List ME}(z:cW J pg d args)(f:∀a,args=[.star a]->aI J pg d a){x:Str}{np p:Pos}{i:Nat}{t:Ty}{as:List aP}{Q:dR}{P:ar->Mem->Prop}(T:At J pg d k B Y A c s env)(h:k.is x i (OD t)=true)(M:fK 0 k args as=true)(w:wEs J pg d args P B Y)(q:∀c₁ m vs xs,Step J c s c₁ m cZ->ay c₁ m.heap vs xs->P vs c₁.Y->wpAny J.ax A (call (.type t.name) xs) Q E m):wpAny J.ax A (eval (.Call (.Name x np) as [] p) env) Q E s:=by
 show wpAny _ _ (eval (.Name x np) env>>=λ g=>callWith p g [] (backTo p (starEach as env)) (backToKw p (keywordEach [] env))) _ _ _
 refine ag (wJ e T h λ v y n r=> ?_)
 rw[F4 n]at r
 refine(show y= .type t.name from r).symm▸?_
 refine bQ (kH.go (eT (ks:=[]) (ns:=[]) (kws:=[]) (P:=λ vs ws Y=>P vs Y) z f jV M (Bool.or_true _) rfl rfl rfl w T) λ a U c₂ vs ws o j G b=> ?_)
 exact G.no▸⟨⟨.machine,Looks.now⟩,q c₂ U vs a.pos o j b⟩
theorem ay.one{v:V}{xs:aL}(r:ay c h [v] xs):∃x,xs=[x]/\aD c h v x:=by
 induction xs using List.casesOn with
 |nil=>exact r.elim
 |cons x xs=>induction xs using List.casesOn with
  |nil=>exact⟨x,rfl,r.1⟩
  |cons=>exact r.2.elim
theorem ay.two{v w:V}{xs:aL}(r:ay c h [v,w] xs):∃x y,xs=[x,y]/\aD c h v x/\aD c h w y:=by
 induction xs using List.casesOn with
 |nil=>exact r.elim
 |cons x xs=>obtain⟨y,e,z⟩:=r.2.one;exact⟨x,y,by exact e.symm▸rfl,r.1,z⟩
theorem ay.none{xs:aL}(r:ay c h [] xs):xs=[]:=by
 induction xs using List.casesOn with
 |nil=>rfl
 |cons=>exact r.elim
theorem F6(N:cM J pg)(j:Nat){args:List ME}(y:cW J pg d args)(f:∀a,args=[.star a]->aI J pg d a):jY J pg d (.range j args):=by
 intro k e Q B Y A E c s env h w T
 refine fT (P:=λ e=>wpAny J.ax A (eval e env) (λ x m=>wpAny J.ax A (pyIter x) (Src J c s Q) E m) E s) h λ g as ks p h=> ?_
 have h:=ao h
 refine(mw h.1).symm▸?_
 refine bW (P:=λ g=>wpAny J.ax A (eval (.Call g as [] p) env) (λ x m=>wpAny J.ax A (pyIter x) (Src J c s Q) E m) E s) h.2 λ x np h=> ?_
 have M:=ao (ao h).1
 refine Cg (P:=λ vs Y=>opt (Ax vs) λ vs=>Q (false,vs,λ D=>True) Y) N y f T M.1 M.2 w λ c₁ m vs xs S r i=>de i λ ws U q=> ?_
 obtain⟨v,rfl,U⟩:=Fs U
 obtain⟨b,rfl,U⟩:=pG U
 have U:=bl U
 rw[<-U.2]at q
 obtain⟨x,rfl,t,rfl⟩:=r.one
 have l:=S.trans (S.rel.push {cls:= .type "range",data:= .fields #[.int 0 m.toks,.int b t,.int 1 (m.toks+1)]} (m.toks+1+1))
 have G:=ao U.1
 obtain⟨n,rfl⟩:=Int.eq_ofNat_of_zero_le (ae G.1)
 exact call_range_1 (aV (DH (E:=E) l.rel (IsRange.new ..) (ae G.2) q) (λ it I L=>L.after l) λ D D z=>z)
theorem Rel.W8(R:Rel J c s)(ys:List Addr){h':Heap}(H:∀b t,s.heap.get? b=some t->h'.get? b=some t)(j:∀b∈ys,s.heap.objs.size<=b/\b<h'.objs.size)(L:s.heap.objs.size<=h'.objs.size):Step J c s (c.qS ys) {s with heap:=h'} cZ:=R.vY ys H L rfl rfl j
theorem zip_get{xs ys:ar}{j:Nat}{v:V}(h:(List.zipWith (λ x y=>V.tuple [x,y]) xs ys)[j]? =some v):∃x y,xs[j]? =some x/\ys[j]? =some y/\v= .tuple [x,y]:=by
 rw[List.getElem?_zipWith]at h
 cases I:xs[j]?with
 |none=>rw[I]at h;exact nn h
 |some x=>
  cases t:ys[j]?with
  |none=>rw[I,t]at h;exact nn h
  |some y=>rw[I,t]at h;obtain rfl:=aM h;exact⟨x,y,rfl,rfl,rfl⟩
theorem Src.made(R:Rel J c s){h':Heap}{n m:Nat}{ys ls wr:List Addr}{I:Addr}{vs:ar}{P:Nat->Array Value->Prop}{St:Nat->Heap->Prop}{i:Nat->Addr->Heap->Prop}{Q:Bool×ar×(Mem->Prop)->Mem->Prop}(H:∀b r,s.heap.get? b=some r->h'.get? b=some r)(hsz:h'.objs.size=s.heap.objs.size+n)(t:∀b∈ys,s.heap.objs.size<=b/\b<s.heap.objs.size+n)(a:∀b∈wr,b∈ys)(W:∀A:Around,A.handled=none->WalksU J.prog J.w A I (ys++ls) wr m P St i)(hm:m=vs.length)(f:Step J c s (c.qS ys) {s with heap:=h'} cZ->St 0 h'/\(∀j x v,P j x->vs[j]? =some v->∃ws,v= .tuple ws/\ay (c.qS ys) h' ws x.toList)/\∀b∈ls,wC (c.qS ys) h' b)(q:Q (true,vs,λ D=>True) c.Y):Src J c s Q (.ref I) {s with heap:=h'}:=have S:=R.W8 ys (h':=h') H (λ b U=>⟨(t b U).1,by exact hsz▸(t b U).2⟩) (by exact hsz▸au ..)
 have z:=f S
 ⟨I,ys,_,_,(true,vs,λ D=>True),_,_,S,λ b U=>⟨gP _ U,(t b U).1⟩,λ A' w=>dm.M3 (W A' w) a vs hm,⟨z.1,z.2.1,λ b U=>(dZ.mp U).imp id (z.2.2 b)⟩,q⟩
theorem Ci{N n:Nat}{l:aj}(h:l.all (λ o=>decide (o<n))=true):∀b∈l.map (N+·),N<=b/\b<N+n:=λ b U=>by
 obtain⟨o,E,rfl⟩:=cQ.mp U
 exact⟨au ..,kY (ae (fg.mp h o E)) _⟩
theorem SeqAt.low{T:String}{a:Addr}{g:aL}(x:SeqAt h T a g):a<h.objs.size:=let⟨_,e⟩:=x;cD e
theorem JG(R:Rel J c s){o ws:ar}{xs:aL}(m:ay c s.heap [.list o,.list ws] xs){Q:Bool×ar×(Mem->Prop)->Mem->Prop}(q:Q (true,List.zipWith (λ x y=> .tuple [x,y]) o ws,λ D=>True) c.Y):wpAny J.ax A (call (.type Ty.zip.name) xs) (λ x w=>wpAny J.ax A (pyIter x) (Src J c s Q) E w) E s:=by
 obtain⟨x,y,rfl,⟨l1,d,rfl,q1,n1,r1⟩,l2,k,rfl,q2,n2,r2⟩:=m.two
 refine call_zip_2 q1.isList q2.isList λ h' i M G N I hsz H=>wpAny_pyIter_zip i (Src.made R (ls:=[l1,l2]) H hsz (Ci (l:=[4,2,3,0,1]) rfl) (λ b U=>(bg.mp U).elim (λ e=>e▸.head _) λ h=> .tail _ (.tail _ h)) (λ A' f=>(WalksT.zip2 f _ _ _ _ _ l1 l2 (zipApart_new q1.low q2.low) d.toArray k.toArray).toU) (by rw[cA,cA,<-r1.length,<-r2.length,List.length_zipWith]) (λ S=> ?_) q)
 have r:=q1.carry S.carry (.inl rfl) n1
 have a:=q2.carry S.carry (.inl rfl) n2
 refine⟨⟨i,M,⟨_,_,G⟩,N,I,r.1.isList,a.1.isList⟩,λ z x v p e=> ?_,λ b U=> ?_⟩
 ·obtain⟨j,g,u,L,rfl⟩:=p
  obtain⟨n,C,f1,f2,rfl⟩:=zip_get e
  exact⟨[n,C],rfl,oG (r1.carry S.carry) _ _ _ u f1,oG (r2.carry S.carry) _ _ _ L f2,trivial⟩
 ·exact(bg.mp U).elim (λ e=>e▸r.1.JC (.inl rfl) r.2) λ U=>cR.mp U▸a.1.JC (.inl rfl) a.2
theorem M8{xs:ar}{ys:aj}{j:Nat}{v:V}(h:(List.zipWith (λ x (y:Nat)=>V.tuple [x,.int (y:Int)]) xs ys)[j]? =some v):∃x y,xs[j]? =some x/\ys[j]? =some y/\v= .tuple [x,.int ((y:Nat):Int)]:=by
 rw[List.getElem?_zipWith]at h
 cases I:xs[j]?with
 |none=>rw[I]at h;exact nn h
 |some x=>
  cases t:ys[j]?with
  |none=>rw[I,t]at h;exact nn h
  |some y=>rw[I,t]at h;exact⟨x,y,rfl,rfl,(aM h).symm⟩
theorem M9(R:Rel J c s){o:ar}{ys:aj}{xs:aL}(m:ay c s.heap [.list o,.bytes ys] xs){Q:Bool×ar×(Mem->Prop)->Mem->Prop}(q:Q (true,List.zipWith (λ x (y:Nat)=>V.tuple [x,.int (y:Int)]) o ys,λ D=>True) c.Y):wpAny J.ax A (call (.type Ty.zip.name) xs) (λ x w=>wpAny J.ax A (pyIter x) (Src J c s Q) E w) E s:=by
 obtain⟨x,y,rfl,⟨l1,d,rfl,q1,n1,r1⟩,U,t,rfl⟩:=m.two
 refine JF q1.isList λ h' Z hsz H=> ?_
 obtain⟨u,v,i,M,G,a,k,L⟩:=Z
 refine wpAny_pyIter_zip i (Src.made R (ls:=[l1]) H hsz (Ci (l:=[4,2,3,0,1]) rfl) (λ b U=>(bg.mp U).elim (λ e=>e▸.head _) λ h=> .tail _ (.tail _ h)) (λ A' f=>F2 f _ _ _ _ _ l1 (zipApart_new q1.low q1.low) d.toArray (bP ys) t) (by refine cA.symm▸r1.length▸List.length_zipWith.symm▸?_;delta bP;rw[cA,aX]) (λ S=> ?_) q)
 have r:=q1.carry S.carry (.inl rfl) n1
 refine⟨⟨u,v,i,M,G,a,k,r.1.isList⟩,λ C x v p e=> ?_,λ b U=> ?_⟩
 ·obtain⟨j,z,tk,N,I,rfl⟩:=p
  obtain⟨n,n1,f1,f2,rfl⟩:=M8 e
  rw[vg U I]at f2
  exact aM f2▸⟨[n,_],rfl,oG (r1.carry S.carry) _ _ _ N f1,⟨tk,rfl⟩,trivial⟩
 ·exact cR.mp U▸r.1.JC (.inl rfl) r.2
theorem JH{a b:ME}{Q:ar->Mem->Prop}(q:a.isStar=false)(f:b.isStar=false)(w:wE J pg d a (λ va Y=>wE J pg d b (λ vb Y=>Q [va,vb] Y) B Y) B Y):wEs J pg d [a,b] Q B Y:=by
 refine(sD q).symm▸?_
 simp only[λ(p:ar->Mem->Prop) Y=>sD (J:=J) (pg:=pg) (d:=d) (es:=[]) (Q:=p) (B:=B) (Y:=Y) f]
 exact w
theorem sN{a:ME}{es:List ME}{x:aP}{xs:List aP}(Q:a.isStar=false)(M:bY 0 k a x=true)(w:noStar x=true)(h:fK 0 k es xs=true):fK 0 k (a::es) (x::xs)=true:=by
 rw[B7 Q,w,M,h]
 rfl
theorem Na(U:cM J pg)(j:Nat){a b:ME}(y:cW J pg d [a,b]):jY J pg d (.zip j a b):=by
 intro k e Q B Y A E c s env h w T
 refine fT (P:=λ e=>wpAny J.ax A (eval e env) (λ x m=>wpAny J.ax A (pyIter x) (Src J c s Q) E m) E s) h λ g as ks p h=> ?_
 have h:=ao h
 refine(mw h.1).symm▸?_
 refine bW (P:=λ g=>wpAny J.ax A (eval (.Call g as [] p) env) (λ x m=>wpAny J.ax A (pyIter x) (Src J c s Q) E m) E s) h.2 λ x np h=> ?_
 refine Jg (P:=λ as=>wpAny J.ax A (eval (.Call (.Name x np) as [] p) env) (λ x m=>wpAny J.ax A (pyIter x) (Src J c s Q) E m) E s) h λ N t h=> ?_
 have h:=ao h
 have M:=ao h.1
 have u:=ao M.1
 have r:=ao u.1
 have o:=l8 r.2 M.2
 have f:=l8 u.2 h.2
 refine Cg (P:=λ vs Y=>match vs with|[va,vb]=>opt (Je va vb) (λ vs=>Q (true,vs,λ D=>True) Y)|_=>False) U y nofun T r.1 (sN o r.2 M.2 (sN f u.2 h.2 rfl)) (JH o f w) λ c₁ m vs xs S n i=> ?_
 obtain⟨va,vb,rfl⟩:∃va vb,vs=[va,vb]:=by
  induction vs using List.casesOn with
  |nil=>exact i.elim
  |cons va vs=>induction vs using List.casesOn with
   |nil=>exact i.elim
   |cons vb vs=>induction vs using List.casesOn with
    |nil=>exact⟨va,vb,rfl⟩
    |cons=>exact i.elim
 refine de i λ zs v q=> ?_
 induction va using V.casesOn with
 |list I=>
  induction vb using V.casesOn with
  |list ws=>
   rw[<-aM v]at q
   exact aV (JG (E:=E) S.rel n q) (λ x m h=>aV h (λ it G L=>L.after S) λ D D z=>z) λ D D z=>z
  |bytes ys=>
   rw[<-aM v]at q
   exact aV (M9 (E:=E) S.rel n q) (λ x m h=>aV h (λ it G L=>L.after S) λ D D z=>z) λ D D z=>z
  |_=>exact nn v
 |_=>exact nn v
theorem DL(ok:bA J)(R:Rel J c s){i:Nat}(hi:i<c.Y.n){p:Pos}{t:Sem Bool}{bC:List (Int×V)}{ep:Nat}(e:c.Y.f i= .dict bC ep){Q:Bool×ar×(Mem->Prop)->Mem->Prop}(q:Q (false,bC.map (·.2),λ σ'=>σ'.f i= .dict bC ep) c.Y):wpAny J.ax A (getMethod (.ref (c.ρ i)) "values" t) (λ x w=>wpAny J.ax A (callWith p x.1 x.2 [] []) (λ x w=>wpAny J.ax A (pyIter x) (Src J c s Q) E w) E w) E s:=by
 have r:=R.obj i hi
 rw[e]at r
 obtain⟨u,U,v,m⟩:=r
 have hd:(c.ρ i==sysModules)=false:=rt R (R.high _ (Rel.di ⟨hi,by refine e.symm▸?_;nofun⟩ (by exact u▸.head _))).1 ok.sys
 obtain⟨o,es,b,k,D⟩:=id v
 refine getMethod_builtin (T:="dict") ⟨_,b,k.1⟩ F.plainAttrs_dict F.slot_dict_values F.type_dict_values (λ a z=>by obtain rfl:=Value.ref.inj z;exact⟨_,b,k.2.1⟩) (bQ (dQ rfl rfl (aA (aA ⟨⟨.machine,Looks.now⟩,?_⟩))))
 refine call_meetsIn F.slot_dict_values ⟨_,b,k.1⟩ F.entry_dict_values (F.args_dict_values_1 _) (meets_dict_values (intKind J.prog J.w) _ hd) ⟨⟨U,v.dictOf⟩,?_⟩
 have l:=R.push {cls:= .type "dict_values",data:= .fields #[.ref (c.ρ i)]} s.toks
 refine wpAny_pyIter_values (knd:=intKind J.prog J.w) ⟨_,bM _ rfl,rfl,rfl⟩ (v.at λ o e=>bt _ e) ((Src.push l.rel _ s.toks q (λ A' f=>dm.kE (i:=i) f bC ep) λ S j=>⟨?_,hi,j⟩).after l)
 exact m.vals.1▸⟨_,bM _ rfl,rfl,rfl⟩
theorem DM(ok:bA J){o:ME}(n:aI J pg d o):jY J pg d (.values o):=by
 intro k e Q B Y A E c s env h w T
 refine fT (P:=λ e=>wpAny J.ax A (eval e env) (λ x m=>wpAny J.ax A (pyIter x) (Src J c s Q) E m) E s) h λ g as ks p h=> ?_
 have h:=ao h
 have b:=ao h.1
 refine(mw b.1).symm▸(mw b.2).symm▸?_
 refine bG (P:=λ g=>wpAny J.ax A (eval (.Call g [] [] p) env) (λ x m=>wpAny J.ax A (pyIter x) (Src J c s Q) E m) E s) h.2 λ M name H h=> ?_
 have G:=ao h
 have u:=ao G.1
 have l:=ao u.1
 refine(bh l.2).symm▸?_
 show wpAny _ _ (attributeBase M "values" env (eval M env)>>=λ f=>standAt H.atName>>=λ D=>methodCall M "values" H p env f (([]:List aP).length+0) (backTo p (starEach [] env)) (backToKw p (keywordEach [] env))) _ _ _
 refine(oB l.1).symm▸?_
 refine ag ((n k M _ B Y A E c s env G.2 w T).go λ f m c₁ v S r a=>ag (c7 (sj (P:=λ v=>aD c₁ m.heap v f->_) a (λ i a r=>de a λ x I q=> ?_) r)))
 refine r.2.symm▸?_
 have U:methodCallForm (([]:List aP).length+0) (backTo p (starEach [] env)) (backToKw p (keywordEach [] env))=true:=rfl
 unfold methodCall methodCallPos
 rw[U,aw (by simp[ae u.2])]
 obtain⟨bC,ep,e,I⟩:=BY I
 obtain rfl:=aM I
 refine ag (bX (aV (DL (E:=E) ok S.rel r.1 e q) (λ y N h=>ag (aA (aV h (λ x m h=>aV h (λ it N L=>L.after S) λ D D z=>z) λ D D z=>z))) λ D D z=>z))
theorem g9:∀(names:List (Str×NameKind))(n:Nat)(acc:List (Str×Addr)),cellsFrom n names acc=cellsFrom n names []++acc
 |[],_,_=>rfl
 |(x,k)::r,n,acc=>by
  unfold cellsFrom
  split
  ·refine(g9 r _ ((x,n)::acc)).symm▸(g9 r _ [(x,n)]).symm▸?_;simp
  ·exact g9 r n acc
theorem lG:∀{names:List (Str×NameKind)}{n:Nat}{x:Str}{c:Addr},(x,c)∈cellsFrom n names []->(x,NameKind.cell)∈names/\n<=c
 |[],_,_,_,h=>by exact absurd h dt
 |(y,k)::r,n,x,c,h=>by
  unfold cellsFrom at h
  split at h
  ·rename_i H
   have H:k= .cell:=by exact ae H
   subst H
   rw[g9]at h
   rcases dZ.mp h with h|h
   ·exact⟨mK _ (lG h).1,Nat.le_of_succ_le (lG h).2⟩
   ·replace h:=cR.mp h;obtain⟨rfl,rfl⟩:=h;exact⟨by exact List.mem_cons_self,ai _⟩
  ·exact⟨mK _ (lG h).1,(lG h).2⟩
theorem d7{α:Type}:∀{l:List (Str×α)}{x:Str}{v:α},(x,v)∈l->(l.lookup x).isSome=true
 |(y,w)::r,x,v,h=>by
  rw[eF]
  by_cases e:x==y
  ·refine e.symm▸?_;rfl
  ·have U:(x==y)=false:=by exact(Bool.not_eq_true _).mp e
   refine U.symm▸?_
   rcases bg.mp h with h|h
   ·obtain⟨rfl,rfl⟩:=Prod.mk.inj h;simp at e
   ·exact d7 h
theorem F7:∀{names:List (Str×NameKind)}{n:Nat}{x:Str},(x,NameKind.cell)∈names->((cellsFrom n names []).lookup x).isSome=true:=by
 intro names n x h
 have:∃c,(x,c)∈cellsFrom n names []:=by
  induction names generalizing n with
  |nil=>exact absurd h dt
  |cons p r g=>
   obtain⟨y,k⟩:=p
   unfold cellsFrom
   split
   ·rw[g9]
    rcases bg.mp h with h|h
    ·obtain⟨rfl,rfl⟩:=Prod.mk.inj h;exact⟨n,by exact jq _ List.mem_cons_self⟩
    ·obtain⟨c,C⟩:=g (n:=n+1) h;exact⟨c,dZ.mpr (.inl C)⟩
   ·rename_i H
    rcases bg.mp h with h|h
    ·obtain⟨rfl,rfl⟩:=Prod.mk.inj h;exact absurd rfl H
    ·exact g h
 obtain⟨c,C⟩:=this
 exact d7 C
theorem fW(names:List (Str×NameKind))(n:Nat)(acc:List (Str×Addr))(x:Str):(cellsFrom n names acc).lookup x=((cellsFrom n names []).lookup x).or (acc.lookup x):=by
 rw[g9,List.lookup_append]
theorem wK{names:List (Str×NameKind)}{n:Nat}{x:Str}(h:(x,NameKind.cell)∉names):(cellsFrom n names []).lookup x=none:=by
 cases e:(cellsFrom n names []).lookup x with
 |none=>rfl
 |some c=>exact absurd (lG (lookup_mem e)).1 h
theorem sO{M:Model}{scope:Scope}{globals:Addr}{closure:List (Str×Addr)}{binds:List (Str×Value)}{qual:Str}{func:Option Addr}{code:Value}{around:Option Env}{builtins:Addr}{Q:Env->Shared->Prop}(h:wpAny M A (forIn binds PUnit.unit λ(x:Str×Value) (D:PUnit)=>storeName (newEnv scope s.heap.objs.size globals (cellsFrom (s.heap.objs.size+1) scope.names closure) qual func code around builtins) x.1 x.2>>=λ D=>pure (ForInStep.yield PUnit.unit)) (λ D s'=>Q (newEnv scope s.heap.objs.size globals (cellsFrom (s.heap.objs.size+1) scope.names closure) qual func code around builtins) s') E {s with heap:=pushCells (s.heap.push {cls:= .type (if around.isSome then"dict"else"frame"),data:= .dict #[]}) scope.names}):wpAny M A (newFunctionEnv scope globals closure binds qual func code around builtins) Q E s:=by
 simp only[newFunctionEnv]
 refine ag (wpAny_alloc ?_)
 refine ag (wpAny_layCells _ (λ name kind cells=>by cases G:kind==NameKind.cell<;>rfl) _ _ _ _ ?_)
 refine(show({s with heap:=s.heap.push {cls:= .type (if around.isSome then"dict"else"frame"),data:= .dict #[]}}:Shared).heap.objs.size=s.heap.objs.size+1 from cf ..).symm▸?_
 induction around using Option.casesOn with
 |none=>exact ag (aV h (λ D D q=>aA q) λ D D e=>e)
 |some o=>exact ag (aV h (λ D D q=>aA q) λ D D e=>e)
theorem AO{scope:Scope}(h:∀x,(x,NameKind.free)∈scope.names->(env.cells.lookup x).isSome=true):∃cl,closureFor scope env=pure cl/\(∀x a,(x,a)∈cl->(x,NameKind.free)∈scope.names/\env.cells.lookup x=some a)/\∀x,(x,NameKind.free)∈scope.names->(cl.lookup x).isSome=true:=by
 have go:∀(names:List (Str×NameKind))(acc:List (Str×Addr)),(∀x,(x,NameKind.free)∈names->(env.cells.lookup x).isSome=true)->
   ∃cl,(forIn names acc (λ(p:Str×NameKind) (cs:List (Str×Addr))=>if p.2== .free then(cellOf env p.1>>=λ a=>pure (ForInStep.yield ((p.1,a)::cs)))else pure (ForInStep.yield cs)):Sem (List (Str×Addr)))=pure (cl++acc)/\(∀x a,(x,a)∈cl->(x,NameKind.free)∈names/\env.cells.lookup x=some a)/\∀x,(x,NameKind.free)∈names->(cl.lookup x).isSome=true:=by
  intro names
  induction names with
  |nil=>intro acc D;exact⟨[],rfl,λ x a h=>by exact absurd h dt,λ x h=>by exact absurd h dt⟩
  |cons p r g=>
   intro acc w
   obtain⟨y,k⟩:=p
   rw[mE]
   have c:∀x,(x,NameKind.free)∈r->(env.cells.lookup x).isSome=true:=λ x I=>w x (mK _ I)
   by_cases H:k= .free
   ·subst H
    obtain⟨a,z⟩:=uL.mp (w y (by exact List.mem_cons_self))
    obtain⟨cl,e,M,u⟩:=g ((y,a)::acc) c
    refine⟨cl++[(y,a)],?_,λ x b U=> ?_,λ x I=> ?_⟩
    ·simp only[hZ,if_true]
     have C:cellOf env y=pure a:=by delta cellOf;rw[z]
     refine C.symm▸?_
     show(forIn r ((y,a)::acc) _:Sem (List (Str×Addr)))=_
     refine e.symm▸?_;simp
    ·rcases dZ.mp U with U|U
     ·exact⟨mK _ (M x b U).1,(M x b U).2⟩
     ·replace U:=cR.mp U;obtain⟨rfl,rfl⟩:=U;exact⟨by exact List.mem_cons_self,z⟩
    ·rw[List.lookup_append]
     rcases bg.mp I with I|I
     ·have I:x=y:=aE Prod.fst I
      subst I
      cases q:cl.lookup x with
      |none=>simp
      |some _=>rfl
     ·have:=u x I
      cases q:cl.lookup x with
      |none=>rw[q]at this;exact nf this
      |some _=>rfl
   ·obtain⟨cl,e,M,u⟩:=g acc c
    have U:(k==NameKind.free)=false:=by simpa using H
    refine⟨cl,?_,λ x b U=>⟨mK _ (M x b U).1,(M x b U).2⟩,λ x I=> ?_⟩
    ·simp only[U,Bool.false_eq_true,if_false]
     exact e
    ·rcases bg.mp I with I|I
     ·obtain⟨rfl,rfl⟩:=Prod.mk.inj I;exact absurd rfl H
     ·exact u x I
 obtain⟨cl,e,M,u⟩:=go scope.names [] h
 rw[d1]at e
 refine⟨cl,?_,M,u⟩
 show(forIn scope.names [] _>>=λ cs=>pure cs:Sem (List (Str×Addr)))=_
 have N:(λ(x:Str×NameKind) (r:List (Str×Addr))=>(match x with|(name,kind)=>if(kind==NameKind.free)=true then(do let __do_lift<-cellOf env name;pure (ForInStep.yield ((name,__do_lift)::r)))else pure (ForInStep.yield r):Sem (ForInStep (List (Str×Addr)))))=(λ(p:Str×NameKind) (cs:List (Str×Addr))=>if p.2== .free then(cellOf env p.1>>=λ a=>pure (ForInStep.yield ((p.1,a)::cs)))else pure (ForInStep.yield cs)):=by
  funext ⟨a,b⟩ r;rfl
 first
  |(exact e.symm▸rfl;rfl)
  |(simp only[]at e⊢;erw[e];rfl)
noncomputable def qV(scope:Scope)(cl:List (Str×Addr))(L:Addr)(env:Env):Env:={(newEnv scope L env.globals (cellsFrom (L+1) scope.names cl) env.qual none .none (some env) builtinsNs)with scope:=relabel scope env}
noncomputable def unbind(own:List (Str×Nat))(B:ar):ar:=own.foldl (λ f p=>f.set p.2 .aF) B
theorem nh:∀{own:List (Str×Nat)}{B:ar}{i:Nat}{v:V},(unbind own B)[i]? =some v->v= .aF\/B[i]? =some v
 |[],_,_,_,h=> .inr h
 |p::r,B,i,v,h=>by
  have h:(unbind r (B.set p.2 .aF))[i]? =some v:=h
  rcases nh h with h|h
  ·exact .inl h
  ·rw[List.getElem?_set]at h
   split at h
   ·split at h
    ·obtain rfl:=aM h;exact .inl rfl
    ·exact nn h
   ·exact .inr h
theorem sP:∀{own:List (Str×Nat)}{B:ar}{x:Str}{i:Nat}{v:V},(x,i)∈own->(unbind own B)[i]? =some v->v= .aF
 |p::r,B,x,i,v,hm,h=>by
  have h:(unbind r (B.set p.2 .aF))[i]? =some v:=h
  rcases bg.mp hm with rfl|hm
  ·rcases nh h with h|h
   ·exact h
   ·rw[List.getElem?_set]at h
    simp only[if_true]at h
    split at h
    ·obtain rfl:=aM h;rfl
    ·exact nn h
  ·exact sP hm h
theorem wL{scope:Scope}{x:Str}{k:NameKind}(h:scope.names.lookup x=some k):(relabel scope env).names.lookup x=some (if(k== .free&&env.scope.kind== .function&&env.kindOf x==some .cell)=true then .cell else k):=by
 delta relabel
 dsimp only
 generalize scope.names=names at h
 induction names with
 |nil=>exact nn h
 |cons p r g=>
  obtain⟨y,j⟩:=p
  rw[eF]at h
  refine gu.symm▸?_
  by_cases e:x==y
  ·rw[e]at h
   have U:x=y:=by exact ae e
   subst U
   obtain rfl:=aM h
   split<;>simp_all
  ·have U:(x==y)=false:=by exact(Bool.not_eq_true _).mp e
   rw[U]at h
   have:=g h
   split<;>(rw[eF,U];exact this)
theorem oH{scope:Scope}{x:Str}(h:scope.names.lookup x=none):(relabel scope env).names.lookup x=none:=by
 delta relabel
 dsimp only
 generalize scope.names=names at h
 induction names with
 |nil=>rfl
 |cons p r g=>
  obtain⟨y,j⟩:=p
  rw[eF]at h
  refine gu.symm▸?_
  by_cases e:x==y
  ·rw[e]at h;exact nomatch h
  ·have U:(x==y)=false:=by exact(Bool.not_eq_true _).mp e
   rw[U]at h
   have:=g h
   split<;>(rw[eF,U];exact this)
theorem bf{names:List (Str×NameKind)}(w:(names.map (·.1)).Nodup){x:Str}{k:NameKind}(h:(x,k)∈names):names.lookup x=some k:=by
 induction names with
 |nil=>exact absurd h dt
 |cons p r g=>
  obtain⟨y,j⟩:=p
  rw[gu,fh]at w
  rw[eF]
  rcases bg.mp h with h|h
  ·obtain⟨rfl,rfl⟩:=Prod.mk.inj h;simp
  ·have:x≠y:=by
    intro e
    exact w.1 (cQ.mpr ⟨(x,k),h,e⟩)
   have U:(x==y)=false:=by simpa using this
   exact U▸g w.2 h
theorem ni{sc:Scope}{own:List (Str×Nat)}(h:jS k sc own=true):sc.kind= .function/\(sc.names.map (·.1)).Nodup/\k.nm.lookup (".0":Str)=none/\∀x kd,(x,kd)∈sc.names->((kd= .local\/kd= .cell)/\(x=(".0":Str)\/(own.lookup x).isSome=true))\/(kd= .free/\own.lookup x=none/\(k.kd.lookup x=some .cell\/k.kd.lookup x=some .free))\/kd= .globalImplicit:=by
 unfold jS at h
 rw[qk,qk,qk,decide_eq_true_eq,decide_eq_true_eq,fg,rQ]at h
 refine⟨h.1.1.1,h.1.1.2,h.1.2,λ x kd hm=> ?_⟩
 have:=h.2 (x,kd) hm
 induction kd with
 |«local»=>
  have this:(x==(".0":Str)||(own.lookup x).isSome)=true:=this
  rw[Bool.or_eq_true,dD]at this
  exact .inl ⟨.inl rfl,this⟩
 |cell=>
  have this:(x==(".0":Str)||(own.lookup x).isSome)=true:=this
  rw[Bool.or_eq_true,dD]at this
  exact .inl ⟨.inr rfl,this⟩
 |free=>
  have this:((own.lookup x).isNone&&(k.kd.lookup x==some .cell||k.kd.lookup x==some .free))=true:=this
  rw[qk,Bool.or_eq_true,dD,dD,rQ]at this
  exact .inr (.inl ⟨rfl,this⟩)
 |globalImplicit=>exact .inr (.inr rfl)
 |_=>exact nf this
theorem JI(T:At J pg d k B Y A c s env){sc:Scope}{own:List (Str×Nat)}(hs:jS k sc own=true){cl:List (Str×Addr)}(h1:∀x a,(x,a)∈cl->(x,NameKind.free)∈sc.names/\env.cells.lookup x=some a)(h2:∀x,(x,NameKind.free)∈sc.names->(cl.lookup x).isSome=true)(l:Obj)(E:l.data= .dict #[]):∃ys,s.heap.objs.size∈ys/\(∀b∈ys,s.heap.objs.size<=b)/\Step J c s (c.qS ys) {s with heap:=pushCells (s.heap.push l) sc.names} cZ/\At J pg d (k.inner sc own) (unbind own B) Y A (c.qS ys) {s with heap:=pushCells (s.heap.push l) sc.names} (qV sc cl s.heap.objs.size env)/\(∀x b,(own.lookup x).isSome=true->Dk (qV sc cl s.heap.objs.size env) x b->s.heap.objs.size<=b)/\(∀x a,(qV sc cl s.heap.objs.size env).cells.lookup x=some a->s.heap.objs.size<a\/a<s.heap.objs.size):=by
 obtain⟨OH,M,h0,OI⟩:=ni hs
 have sQ:l.isFreed=false:=by obtain⟨a,b,c,d⟩:=l;subst E;rfl
 have ok:=cellsFrom_ok sc.names (s.heap.push l) (s.heap.objs.size+1) [] ⟨λ _ _ hm=>(nomatch hm),List.Pairwise.nil⟩ (by rw[cf];exact ai _)
 rw[cf]at ok
 generalize hH:pushCells (s.heap.push l) sc.names=H at ok
 have jC:∀b o,s.heap.get? b=some o->H.get? b=some o:=λ b o e=>hH▸pushCells_keeps _ _ b o (bt _ e)
 have hL:H.get? s.heap.objs.size=some l:=hH▸pushCells_keeps _ _ _ _ (bM _ sQ)
 have hsz:s.heap.objs.size<=H.objs.size:=dG (cD hL)
 have G:∀x a,(cellsFrom (s.heap.objs.size+1) sc.names []).lookup x=some a->H.IsCell a none/\s.heap.objs.size<a/\(x,NameKind.cell)∈sc.names:=λ x a h=>⟨(ok.empty x a (lookup_mem h)).1,(ok.empty x a (lookup_mem h)).2,(lG (lookup_mem h)).1⟩
 let ys:=s.heap.objs.size::(cellsFrom (s.heap.objs.size+1) sc.names []).map (·.2)
 have f:∀b∈ys,s.heap.objs.size<=b/\b<H.objs.size:=λ b U=>by
  rcases bg.mp U with rfl|U
  ·exact⟨ai _,cD hL⟩
  ·obtain⟨⟨x,a⟩,hp,rfl⟩:=cQ.mp U
   exact⟨dG (ok.empty x a hp).2,(ok.empty x a hp).1.lt⟩
 have S:Step J c s (c.qS ys) {s with heap:=H} cZ:=T.rl.vY ys jC hsz rfl rfl f
 have Q:∀x a,(qV sc cl s.heap.objs.size env).cells.lookup x=some a->(a∈ys/\s.heap.objs.size<a/\(x,NameKind.cell)∈sc.names/\(x,a)∈cellsFrom (s.heap.objs.size+1) sc.names [])\/((x,NameKind.free)∈sc.names/\env.cells.lookup x=some a):=λ x a h=>by
  have h:(cellsFrom (s.heap.objs.size+1) sc.names cl).lookup x=some a:=h
  rw[fW]at h
  cases q:(cellsFrom (s.heap.objs.size+1) sc.names []).lookup x with
  |some b=>
   rw[q]at h
   have h:b=a:=by exact aM h
   subst h
   exact .inl ⟨mK _ (cQ.mpr ⟨(x,b),lookup_mem q,rfl⟩),(G x b q).2.1,(G x b q).2.2,lookup_mem q⟩
  |none=>
   rw[q]at h
   have h:cl.lookup x=some a:=by exact h
   exact .inr (h1 x a (lookup_mem h))
 have m:∀x kd,(x,kd)∈sc.names->(qV sc cl s.heap.objs.size env).kindOf x=some (if(kd== .free&&env.scope.kind== .function&&env.kindOf x==some .cell)=true then .cell else kd):=λ x kd h=>wL (bf M h)
 have wN:∀x kd,(qV sc cl s.heap.objs.size env).kindOf x=some kd->∃L,(x,L)∈sc.names/\kd=if(L== .free&&env.scope.kind== .function&&env.kindOf x==some .cell)=true then .cell else L:=λ x kd h=>by
  cases q:sc.names.lookup x with
  |none=>
   have:(qV sc cl s.heap.objs.size env).kindOf x=none:=oH q
   rw[this]at h;exact nn h
  |some L=>
   have:=m x L (lookup_mem q)
   rw[this]at h
   exact⟨L,lookup_mem q,(aM h).symm⟩
 have fX:∀x,(x,NameKind.free)∈sc.names->∃a,(qV sc cl s.heap.objs.size env).cells.lookup x=some a/\env.cells.lookup x=some a:=λ x h=>by
  obtain⟨a,g⟩:=uL.mp (h2 x h)
  refine⟨a,?_,(h1 x a (lookup_mem g)).2⟩
  refine(?_:(cellsFrom (s.heap.objs.size+1) sc.names cl).lookup x=some a)
  rw[fW,wK (λ q=>by have:=(bf M q).symm.trans (bf M h);exact Option.noConfusion rfl (heq_of_eq this) (λ e=>NameKind.noConfusion (eq_of_heq e)))]
  exact g
 have wQ:∀x,(qV sc cl s.heap.objs.size env).kindOf x=some .cell->((x,NameKind.cell)∈sc.names)\/((x,NameKind.free)∈sc.names/\env.kindOf x=some .cell):=λ x h=>by
  obtain⟨L,hm,e⟩:=wN x _ h
  split at e
  ·rename_i q
   simp only[qk,dD]at q
   obtain⟨⟨rfl,_⟩,q⟩:=q
   exact .inr ⟨hm,q⟩
  ·subst e;exact .inl hm
 have hold:∀x a,env.cells.lookup x=some a->a<s.heap.objs.size:=λ x a h=>(T.en.seen x a h).2.2
 have AP:∀b,Own (qV sc cl s.heap.objs.size env) b->b∈ys\/(Own env b/\b<s.heap.objs.size):=λ b U=>by
  rcases U with rfl|⟨x,C,N⟩
  ·exact .inl List.mem_cons_self
  ·rcases Q x b N with q|⟨q1,q2⟩
   ·exact .inl q.1
   ·rcases wQ x C with z|z
    ·have:=(bf M z).symm.trans (bf M q1);exact Option.noConfusion rfl (heq_of_eq this) (λ e=>NameKind.noConfusion (eq_of_heq e))
    ·exact .inr ⟨.inr ⟨x,z.2,q2⟩,hold x b q2⟩
 refine⟨ys,List.mem_cons_self,λ b U=>(f b U).1,S,⟨T.rm,T.sg,S.rel,⟨OH,T.en.glob,T.en.Mj,⟨?_,?_,?_,?_⟩,?_,?_,?_⟩,?_,?_,T.gg,T.sk.step S⟩,λ x b I U=> ?_,λ x a N=> ?_⟩
 rotate_right 2
 ·rcases U with⟨_,rfl⟩|⟨C,N⟩
  ·exact ai _
  ·rcases Q x b N with q|q
   ·exact dG q.2.1
   ·rcases OI x .free q.1 with w|w|w
    ·rcases w.1 with w|w<;>exact NameKind.noConfusion w
    ·rw[w.2.1]at I;exact nf I
    ·exact NameKind.noConfusion w
 ·rcases Q x a N with q|q
  ·exact .inl q.2.1
  ·exact .inr (hold x a q.2)
 ·refine⟨l,#[],0,hL,?_,λ e he=>by simp at he⟩
  exact E
 ·intro x I
  rcases wQ x I with z|⟨z1,z2⟩
  ·obtain⟨a,g⟩:=uL.mp (F7 (n:=s.heap.objs.size+1) z)
   refine⟨a,none,?_,(G x a g).1,Nat.ne_of_gt (G x a g).2.1⟩
   refine(?_:(cellsFrom (s.heap.objs.size+1) sc.names cl).lookup x=some a)
   rw[fW,g];rfl
  ·obtain⟨a,g,U⟩:=fX x z1
   obtain⟨a',v,N,ic,ne⟩:=T.en.H.cell x z2
   rw[U]at N;obtain rfl:=aM N
   exact⟨a,v,g,ic.keeps jC,az (hold x a U)⟩
 ·intro x y a I hy S8 S9
  rcases Q x a S8 with p|p<;>rcases Q y a S9 with q|q
  ·exact name_of_addr ok.apart p.2.2.2 q.2.2.2
  ·exact absurd (hold y a q.2) (aC (dG p.2.1))
  ·exact absurd (hold x a p.2) (aC (dG q.2.1))
  ·have px:env.kindOf x=some .cell:=by
    rcases wQ x I with z|z
    ·have:=(bf M z).symm.trans (bf M p.1);exact Option.noConfusion rfl (heq_of_eq this) (λ e=>NameKind.noConfusion (eq_of_heq e))
    ·exact z.2
   have py:env.kindOf y=some .cell:=by
    rcases wQ y hy with z|z
    ·have:=(bf M z).symm.trans (bf M q.1);exact Option.noConfusion rfl (heq_of_eq this) (λ e=>NameKind.noConfusion (eq_of_heq e))
    ·exact z.2
   exact T.en.H.inj x y a px py p.2 q.2
 ·intro y a hy N E
  obtain⟨L,hm,e⟩:=wN y _ hy
  have IU:(y,NameKind.free)∈sc.names/\env.kindOf y≠some .cell:=by
   split at e
   ·exact NameKind.noConfusion e
   ·rename_i q
    subst e
    refine⟨hm,λ z=>q ?_⟩
    simp[z,T.en.kind]
  rcases Q y a N with q|q
  ·have:=(bf M q.2.2.1).symm.trans (bf M IU.1);exact Option.noConfusion rfl (heq_of_eq this) (λ e=>NameKind.noConfusion (eq_of_heq e))
  ·have fJ:=hold y a q.2
   rcases AP a E with z|z
   ·exact aC (f a z).1 fJ
   ·have S0:env.kindOf y=some .free:=by
     rcases OI y .free IU.1 with w|w|w
     ·rcases w.1 with w|w<;>exact NameKind.noConfusion w
     ·rcases w.2.2 with w|w
      ·exact absurd (T.kd.c y w) IU.2
      ·rcases T.kd.f y w with w|w
       ·exact w
       ·exact absurd w IU.2
     ·exact NameKind.noConfusion w
    exact T.en.H.sep y a S0 q.2 z.1
 ·intro b U
  rcases AP b U with z|z
  ·exact .inl (dZ.mpr (.inl z))
  ·exact(T.en.own b z.1).imp (λ q=>dZ.mpr (.inr q)) (λ q=>q)
 ·intro x a N
  rcases Q x a N with q|q
  ·refine⟨aa T.rl.size (dG q.2.1),λ t=> ?_,(f a q.1).2⟩
   exact absurd (T.rl.high a t).2 (aC (dG q.2.1))
  ·exact⟨(T.en.seen x a q.2).1,λ t=>(T.en.seen x a q.2).2.1 t,ah (hold x a q.2) hsz⟩
 ·intro x I
  obtain⟨L,hm,e⟩:=wN x _ I
  split at e
  ·exact NameKind.noConfusion e
  ·subst e
   obtain⟨a,g,_⟩:=fX x hm
   refine g.symm▸?_;rfl
 ·refine⟨λ x I=> ?_,λ x I=> ?_,λ x I=> ?_,λ x I=> ?_,λ x I=> ?_⟩
  ·have I:isVar (sc.names.lookup x)=true:=I
   cases q:sc.names.lookup x with
   |none=>rw[q]at I;exact nf I
   |some kd=>
    rw[q]at I
    refine(m x kd (lookup_mem q)).symm▸?_
    split
    ·rfl
    ·exact I
  ·refine(m x _ (lookup_mem I)).symm▸?_;rfl
  ·refine(m x _ (lookup_mem I)).symm▸?_;rfl
  ·refine(m x _ (lookup_mem I)).symm▸?_;rfl
  ·refine(m x _ (lookup_mem I)).symm▸?_
   split
   ·exact .inr rfl
   ·exact .inl rfl
 ·intro x i v N C hi
  have N:(own++k.nm).lookup x=some i:=N
  rw[List.lookup_append]at N
  cases q:own.lookup x with
  |some j=>
   rw[q]at N
   have N:j=i:=by exact aM N
   subst N
   exact .inl (sP (lookup_mem q) hi)
  |none=>
   rw[q]at N
   have N:k.nm.lookup x=some i:=by exact N
   rcases nh hi with z|z
   ·exact .inl z
   ·cases RV:(qV sc cl s.heap.objs.size env).kindOf x with
    |none=>rw[RV]at C;exact nf C
    |some kd=>
     obtain⟨L,hm,e⟩:=wN x _ RV
     rcases OI x L hm with w|w|w
     ·rcases w.2 with rfl|w
      ·rw[h0]at N;exact nn N
      ·rw[q]at w;exact nf w
     ·obtain⟨rfl,_,w⟩:=w
      have RL:env.kindOf x=some .cell\/env.kindOf x=some .free:=by
       rcases w with w|w
       ·exact .inl (T.kd.c x w)
       ·exact(T.kd.f x w).symm
      obtain⟨a,g,U⟩:=fX x hm
      rcases T.fv x i v N (by rcases RL with z|z<;>exact z.symm▸rfl<;>rfl) z with z|⟨u,V,r⟩
      ·exact .inl z
      ·rcases V with⟨q1,_⟩|⟨_,a',Lm,ic⟩
       ·rcases RL with z|z<;>rw[z]at q1<;>exact Option.noConfusion rfl (heq_of_eq q1) (λ e=>NameKind.noConfusion (eq_of_heq e))
       ·rw[U]at Lm;obtain rfl:=aM Lm
        refine .inr ⟨u,.inr ⟨?_,a,g,ic.keeps jC⟩,r.carry S.carry⟩
        refine RV.symm▸e.symm▸?_
        split
        ·exact .inl rfl
        ·exact .inr rfl
     ·subst w
      rw[RV,e]at C
      exact nf C
theorem At.vn{c G:Vw}{s s':Shared}{W:Addr->Prop}(T:At J pg d k B Y A c s env)(S:Step J c s G s' W)(M:¬W env.locals)(u:∀x a,env.cells.lookup x=some a->¬W a):At J pg d k B G.Y A G s' env:=⟨T.rm,rfl,S.rel,T.en.step T.rl S λ b U=>by rcases U with rfl|⟨x,D,N⟩;exact M;exact u x b N,T.kd,T.fv.step T.en T.rl S ⟨M,u⟩,T.gg,T.sk.step S⟩
noncomputable def yP(env:Env)(own:List (Str×Nat))(b:Addr):Prop:=∃x i,(x,i)∈own/\Dk env x b
theorem sR(r:A.handled=none)(R:Rel J c s){t:Addr}{vals:Array Value}(u:s.heap.IsTuple t vals){Q:aL->Shared->Prop}(q:∀s',Step J c s c s' cZ->Q vals.toList s'):wpAny J.ax A (unpackItems (.ref t) vals.size none) Q E s:=by
 refine aW λ H=>wpAny_unpackItems_tuple r u λ h' he L=> ?_
 have S:Step J c s c {s with heap:=h'} cZ:=R.other cZ (λ b o e D=>he b o (az (cD e)) e) (λ D h=>h.elim) L rfl rfl
 exact q _ S
theorem hM{P:Prop}{k:Bool}{N:aj}{v:V}{B Q:ar}(z:lE k N v B=some Q)(f:∀i,k=false->N=[i]->Q=B.set i v->P)(g:∀i j a b,k=true->N=[i,j]->v= .tuple [a,b]->Q=(B.set i a).set j b->P):P:=by
 induction k using Bool.casesOn with
 |false=>induction N using List.casesOn with
  |nil=>exact nn z
  |cons i N=>induction N using List.casesOn with
   |nil=>exact f i rfl rfl (aM z).symm
   |cons=>exact nn z
 |true=>induction N using List.casesOn with
  |nil=>exact nn z
  |cons i N=>induction N using List.casesOn with
   |nil=>exact nn z
   |cons j N=>induction N using List.casesOn with
    |nil=>
     obtain⟨vs,e,z⟩:=Mz z
     obtain⟨a,b,U,z⟩:=Av z
     exact g i j a b rfl rfl (U▸e) (aM z).symm
    |cons=>exact nn z
theorem AQ{Q:Unit->Shared->Prop}{y z:Str}{r o p:Pos}{n i j:Nat}{a b:V}{x:Value}(l:A.handled=none)(T:At J pg d k B Y A c s env)(G:k.gR y i=true)(u:k.gR z j=true)(t:FW true c s.heap (.tuple [a,b]) x)(q:∀s',Step J c s c s' (yP env [(y,i),(z,j)])->At J pg d k ((B.set i a).set j b) Y A c s' env->Q () s'):wpAny J.ax A (assign (.Tuple [.Name y r,.Name z o] n p) env x) Q E s:=by
 obtain⟨ws,TT,vals,e,rfl,N,m⟩:=t
 cases e
 obtain⟨f,C,h,r1,r2⟩:=m.two
 have hsz:vals.size=2:=Array.length_toList.symm.trans (aE List.length h)
 show wpAny _ _ (standAt p>>=λ D=>unpack (.ref TT) [(false,λ v=>assign (.Name y r) env v),(false,λ v=>assign (.Name z o) env v)]) _ _ _
 refine ag (c7 (ag (bX ?_)))
 refine(?_:wpAny _ _ (unpackItems (.ref TT) 2 none) _ _ _)
 refine hsz▸?_
 refine sR l T.rl N λ s' S=> ?_
 refine h.symm▸?_
 have w:=T.step S
 rw[T.sg]at w
 exact wpAny_assignInOrder_more (mM (dI w G (r1.carry S.carry) λ aT M H=>wpAny_assignInOrder_more (mM (dI H u ((r2.carry S.carry).carry M.carry) λ I g L=>aA (q I ((S.bO.trans (M.mono λ b U=>⟨y,i,.head _,U⟩)).trans (g.mono λ b U=>⟨z,j,.tail _ (.head _),U⟩)) L)))))
theorem vp{B o:ar}{Q:Unit->Shared->Prop}{U:Bool}{N:aj}{t:aP}{v:V}{x:Value}(G:A.handled=none)(T:At J pg d k B Y A c s env)(u:yF k N t=true)(r:FW U c s.heap v x)(g:lE U N v B=some o)(q:∀s',Step J c s c s' (yP env (dA N t))->At J pg d k o Y A c s' env->Q () s'):wpAny J.ax A (assign t env x) Q E s:=FH (P:=λ N t=>lE U N v B=some o->(∀s',Step J c s c s' (yP env (dA N t))->At J pg d k o Y A c s' env->Q () s')->wpAny J.ax A (assign t env x) Q E s) u (λ y p i h g q=>hM g (λ I M l C=>by
   cases l
   subst M C
   exact mM (dI T h r λ s' S H=>q s' (S.mono λ b L=>⟨y,i,.head _,L⟩) H)) λ D D D D D e=>nomatch e)
  (λ y p1 z p2 n p i j w m g q=>hM g (λ D D e=>nomatch e) λ I j' a b M l C f=>by
   cases l
   subst M C f
   exact AQ G T w m r q) g q
noncomputable abbrev JJ:dR:=λ D D=>False
noncomputable def AR(e:aP)(depth:Nat)(it acc:Value)(env:Env)(target iter:aP)(ifs:List aP)(emit:Sem Unit):Sem Fin:=do
 standAt iter.pos
 match<-pyNext it with
 |none=>pure (.done .next)
 |some v=>
  letOwnedTupleGo target it v
  assign target env v
  let mut ok:=true
  for c in ifs do
   if ok then ok<-isTrue c env (eval c env)
  if ok then emit
  again (.compLoop e depth it acc env)
noncomputable def Lo(elt:aP)(acc:Value)(env:Env):Sem Unit:=do let _<-call (.builtin "list.append") [acc,<-eval elt env]
theorem Nb(elt t i:aP)(fs:List aP)(sc:Scope)(pos:Pos)(it acc:Value)(env:Env):compTurn (.ListComp elt [⟨t,i,fs,0⟩] sc pos) 0 it acc env=AR (.ListComp elt [⟨t,i,fs,0⟩] sc pos) 0 it acc env t i fs (Lo elt acc env):=by rfl
section
variable{prog:Program}{w:World}{R:Result->Shared->Prop}
theorem ui{elt:aP}{gens:List Comprehension}{sc:Scope}{pos:Pos}{depth:Nat}{it acc:Value}{target iter:aP}{ifs:List aP}{emit:Sem Unit}(heq:compTurn (.ListComp elt gens sc pos) depth it acc env=AR (.ListComp elt gens sc pos) depth it acc env target iter ifs emit)(I:Nat->Shared->Prop)(turn:∀n s,I n s->wpAny (model prog w) A (pyNext it) (λ r p=>match r with
   |none=>R (.ok .next) p
   |some v=>wpAny (model prog w) A (letOwnedTupleGo target it v) (λ D U=>wpAny (model prog w) A (assign target env v) (λ D Q=>
     wpAny (model prog w) A (forIn ifs true λ c r=>if r=true then do let ok<-isTrue c env (eval c env);pure (ForInStep.yield ok)else pure (ForInStep.yield r)) (λ ok e=>match ok with
      |true=>wpAny (model prog w) A emit (λ D L=>∃m,m<n/\I m L) JJ e
      |false=>∃m,m<n/\I m e) JJ Q) JJ U) JJ p) JJ s)
  (n:Nat)(h:I n s):codeAny (model prog w) A (.compLoop (.ListComp elt gens sc pos) depth it acc env) R s:=by
 refine codeAny_loop rfl I (λ n s l=> ?_) n h
 refine(?_:wpAny _ A ((compTurn (.ListComp elt gens sc pos) depth it acc env).onRaise (λ x=>do noteFrame x env;theTreesLotGoes x)) _ _ s)
 refine wpAny_noted (wpAny_noRaise ?_)
 refine heq.symm▸?_
 refine ag (c7 (ag (aV (turn n s l) (λ r p C=> ?_) λ D D h'=>h')))
 induction r using Option.casesOn with
 |none=>exact aA C
 |some v=>
  refine ag (aV C (λ D U z=>ag (aV z (λ D Q M=>ag (aV M (λ ok e a=> ?_) λ D D h'=>h')) λ D D h'=>h')) λ D D h'=>h')
  induction ok using Bool.casesOn with
  |false=>exact aA ⟨rfl,a⟩
  |true=>exact ag (aV a (λ D L q=>aA ⟨rfl,q⟩) λ D D h'=>h')
end
noncomputable def Acc(c:Vw)(h:Heap)(D:Addr)(acc:ar):Prop:=∃g,SeqAt h "list" D g/\ay c h acc g
theorem Acc.step{c G:Vw}{s s':Shared}{W:Addr->Prop}{D:Addr}{acc:ar}(a:Acc c s.heap D acc)(R:Rel J c s)(S:Step J c s G s' W)(j:D∈c.y)(m:¬W D):Acc G s'.heap D acc:=by
 obtain⟨g,⟨n,e⟩,r⟩:=a
 exact⟨g,⟨n,S.lu R j m e⟩,r.carry S.carry⟩
theorem AS{d:Addr}{acc:ar}{v:V}{x:Value}(R:Rel J c s)(a:Acc c s.heap d acc)(j:d∈c.y)(r:aD c s.heap v x)(N:acc.length<=300000){Q:dR}(q:∀s',Step J c s c s' (·=d)->Acc c s'.heap d (acc++[v])->Q .none s'):wpAny J.ax A (call (.builtin "list.append") [.ref d,x]) Q E s:=by
 obtain⟨g,⟨n,e⟩,m⟩:=a
 obtain⟨I,k⟩:=Obj.data_mapSeq (o:={cls:= .type "list",dict:= .none,data:= .seq g.toArray n,slots:= #[]}) rfl (·.push x)
 refine mL slot_list_append (SeqAt.typeIs (T:="list") ⟨n,e⟩ rfl) entry_list_append ?_ (args_list_append _ _)
 show wpAny _ _ (updateSeq d (·.push x)>>=λ D=>ret .none) _ _ s
 refine ag (wpAny_updateSeq e rfl (aA ⟨.none,rfl,?_⟩) (by refine cA.symm▸m.length▸aQ.symm▸?_;exact aa N (by decide)) (by rw[Array.size_push,cA,<-m.length,aQ];exact b9 N (by decide)))
 have S:Step J c s c {s with heap:=s.heap.update d (Obj.mapSeq (·.push x))} (·=d):=R.other (·=d) (λ b o h f=>(nU _ _ (Ne.symm f)).trans h)
  (λ b U=>by subst U;exact⟨(R.eB b j).1,(R.eB b j).2.2.1,(R.eB b j).2.2.2,j⟩) (by refine(?_:_<=(Heap.update _ _ _).objs.size);rw[uK];exact ai _) rfl rfl
 refine q _ S ⟨g++[x],⟨I,?_⟩,(m.carry S.carry).append ⟨r.carry S.carry,trivial⟩⟩
 refine(Heap.get?_update_self _ e (by rfl)).trans ?_
 simp only[Obj.mapSeq]at k⊢
 simp_all
noncomputable def fY(N:aj)(B Q:ar):Prop:=B.length=Q.length/\∀j,j∉N->B[j]? =Q[j]?
theorem fY.trans{N:aj}{a b c:ar}(x:fY N a b)(y:fY N b c):fY N a c:=⟨x.1.trans y.1,λ j h=>(x.2 j h).trans (y.2 j h)⟩
theorem fY.symm{N:aj}{a b:ar}(x:fY N a b):fY N b a:=⟨x.1.symm,λ j h=>(x.2 j h).symm⟩
theorem fY.set{N:aj}{i:Nat}{v:V}(h:i∈N):fY N B (B.set i v):=⟨by simp,λ j s=>by rw[List.getElem?_set_ne];rintro rfl;exact s h⟩
theorem fY.asg{s:Bool}{N:aj}{B Q:ar}{v:V}(h:lE s N v B=some Q):fY N B Q:=hM h (λ i D k l=>by rw[k,l];exact fY.set (.head _)) λ i j a b D k D l=>by rw[k,l];exact(fY.set (v:=a) (.head _)).trans (fY.set (v:=b) (.tail _ (.head _)))
theorem set_same{i:Nat}{N:aj}{a b:ar}{v:V}(x:fY (i::N) a b):fY N (a.set i v) (b.set i v):=⟨by rw[List.length_set,List.length_set,x.1],λ j s=>by
  rw[List.getElem?_set,List.getElem?_set,x.1]
  split
  ·rfl
  ·rename_i ne
   exact x.2 j λ h=>(bg.mp h).elim (λ e=>ne e.symm) s⟩
theorem fY.eq{a b:ar}(x:fY [] a b):a=b:=List.ext_getElem? λ j=>x.2 j (nofun)
theorem F9{s:Bool}{N:aj}{B e Q:ar}{v:V}(x:fY N e B)(h:lE s N v B=some Q):lE s N v e=some Q:=hM h (λ i G k l=>by
  subst G k l
  exact aE some (set_same x).eq) λ i j a b G k C l=>by
  subst G k l C
  exact aE some (set_same (set_same x)).eq
theorem sS{Q:Bool->Shared->Prop}(q:Q false s):∀(xs:List aP),wpAny J.ax A (forIn xs false λ c r=>if r=true then do let ok<-isTrue c env (eval c env);pure (ForInStep.yield ok)else pure (ForInStep.yield r)) Q E s
 |[]=>aA q
 |x::xs=>by
  rw[mE]
  simp only[Bool.false_eq_true,if_false]
  exact ag (aA (sS q xs))
theorem yQ{ms:List ME}(hm:∀m∈ms,eS J pg d m){xs:List aP}{Q:Bool->Mem->Prop}(h:fK 1 k ms xs=true)(w:wTs J pg d ms Q B Y)(T:At J pg d k B Y A c s env):wpAny J.ax A (forIn xs true λ c r=>if r=true then do let ok<-isTrue c env (eval c env);pure (ForInStep.yield ok)else pure (ForInStep.yield r)) (yg J c s Q) E s:=by
 induction ms generalizing xs Y c s with
 |nil=>
  exact(mw (α:=aP) (l:=xs) (by induction xs<;>first|rfl|exact nf h))▸aA ⟨c,.refl T.rl,by rw[T.sg];exact w⟩
 |cons m ms y=>
  induction xs using List.casesOn with
  |nil=>exact nf h
  |cons x xs=>
   have h:=(vd h).2
   rw[mE,aw rfl]
   refine ag (ag ((hm m (.head _) k x (λ q Y=>match q with
    |true=>wTs J pg d ms Q B Y
    |false=>Q false Y) B Y A E c s env h.1 w T).go λ b p c₁ S i=>aA ?_))
   induction b using Bool.casesOn with
   |true=>exact yi.after S (y (λ a h'=>hm a (.tail _ h')) h.2 i (T.step S))
   |false=>exact sS ⟨c₁,S,i⟩ xs
theorem Lp{s:Bool}{N:aj}{t:aP}{v:V}{B Q:ar}(h:yF k N t=true)(z:lE s N v B=some Q):JB s t=true:=FH (P:=λ N t=>lE s N v B=some Q->JB s t=true) h (λ x p i D z=>hM z (λ D e D D=>by rw[e];rfl) λ D D D D D e=>nomatch e) (λ x U y T n p i j D D z=>hM z (λ D D e=>nomatch e) λ D D D D e D D D=>by rw[e];rfl) z
theorem yP.own{own:List (Str×Nat)}{b:Addr}(h:yP env own b):b=env.locals\/∃x,env.cells.lookup x=some b:=by
 obtain⟨x,i,D,⟨D,h⟩|⟨D,h⟩⟩:=h
 ·exact .inl h
 ·exact .inr ⟨x,h⟩
noncomputable def Ga(J:Cx)(pg:Pg)(d:Nat)(k:Bool)(N:aj)(tests:List ME)(body:ar->(ar->Mem->Prop)->Mem->Prop)(B:ar)(v:V)(K:ar->Mem->Prop)(Y:Mem):Prop:=opt (lE k N v B) λ Q=>wTs J pg d tests (λ b Y=>match b with
  |true=>body Q K Y
  |false=>K [] Y) Q Y
noncomputable def Lq(ys:List Addr)(env:Env)(own:List (Str×Nat))(Wm:Addr->Prop)(b:Addr):Prop:=b∈ys\/yP env own b\/Wm b
inductive Nc(J:Cx)(pg:Pg)(d:Nat)(A:Around)(k:CC)(env:Env)(B:ar)(D:Addr)(acc:ar)(Wm:Addr->Prop)(P:ar->Mem->Prop)(c:Vw)(s s':Shared):Prop
 |mk (c':Vw) (rs:ar) (S:Step J c s c' s' Wm) (T:At J pg d k B c'.Y A c' s' env) (ac:Acc c' s'.heap D (acc++rs)) (p:P rs c'.Y):Nc J pg d A k env B D acc Wm P c s s'
inductive Cj(J:Cx)(pg:Pg)(d:Nat)(A:Around)(k:CC)(env:Env)(B:ar)(tg:aj)(D:Addr)(acc₀:ar)(W:Addr->Prop)(St:Nat->Vw->Heap->Prop)(len:Nat)(P:Nat->ar->Mem->Prop)(c:Vw)(s:Shared)(n:Nat)(s':Shared):Prop
 |mk (i:Nat) (acc:ar) (c':Vw) (bj:ar) (hn:n=len-i) (hi:i<=len) (S:Step J c s c' s' W) (T:At J pg d k bj c'.Y A c' s' env) (hs:fY tg bj B) (st:St i c' s'.heap) (ac:Acc c' s'.heap D (acc₀++acc)) (w:P i acc c'.Y):Cj J pg d A k env B tg D acc₀ W St len P c s n s'
theorem AU(hh:A.handled=none){f:Env}{elt:aP}{gens:List Comprehension}{sc:Scope}{pos:Pos}{depth:Nat}{target iter:aP}{ifs:List aP}{emit:Sem Unit}{tests:List ME}{pr:Bool}{N:aj}{I e:Addr}{ys:List Addr}{vs:ar}{g:Mem->Prop}{St:Nat->Vw->Heap->Prop}{Md:Nat->Value->Vw->Heap->Prop}{Wm:Addr->Prop}{R:Result->Shared->Prop}(heq:compTurn (.ListComp elt gens sc pos) depth (.ref I) (.ref e) f=AR (.ListComp elt gens sc pos) depth (.ref I) (.ref e) f target iter ifs emit)(j:dm J A pr I ys vs g St Md)(Vt:yF k N target=true)(PO:∀m∈tests,eS J pg d m)(RW:fK 1 k tests ifs=true){B:ar}{body:ar->(ar->Mem->Prop)->Mem->Prop}{K:ar->Mem->Prop}{acc₀:ar}(L:e≠f.locals/\(∀x,f.cells.lookup x≠some e)/\e∉ys)(t:∀b∈ys,b≠f.locals/\(∀x,f.cells.lookup x≠some b)/\¬Wm b)(Ss:∀Q c s JK(P:ar->Mem->Prop),fY N B Q->At J pg d k Q c.Y A c s f->Acc c s.heap e JK->e∈c.y->JK.length<=acc₀.length+100000->body Q P c.Y->wpAny J.ax A emit (λ D s'=>Nc J pg d A k f Q e JK Wm P c s s') JJ s){c:Vw}{s:Shared}{eZ:ar}(t6:fY N eZ B)(T:At J pg d k eZ c.Y A c s f)(my:St 0 c s.heap)(hy:∀b∈ys,b∈c.y)(RX:e∈c.y)(ha:Acc c s.heap e acc₀)(w:compLoop (Ga J pg d pr N tests body B) g vs K [] c.Y)(hR:∀G s' C Q,Step J c s G s' (Lq ys f (dA N target) Wm)->At J pg d k Q G.Y A G s' f->fY N Q B->Acc G s'.heap e (acc₀++C)->K C G.Y->R (.ok .next) s'):codeAny J.ax A (.compLoop (.ListComp elt gens sc pos) depth (.ref I) (.ref e) f) R s:=by
 have nl:¬(f.locals∈ys):=λ h=>(t _ h).1 rfl
 have nc:∀x a,f.cells.lookup x=some a->¬(a∈ys):=λ x a hl h=>(t a h).2.1 x hl
 have nd:∀b∈ys,¬yP f (dA N target) b:=λ b U h=>h.own.elim (t b U).1 λ⟨x,h⟩=>(t b U).2.1 x h
 refine ui heq (Cj J pg d A k f B N e acc₀ (Lq ys f (dA N target) Wm) St vs.length (λ i acc Y=>compLoop (Ga J pg d pr N tests body B) g (vs.drop i) K acc Y) c s) (λ n s' h=> ?_) vs.length ⟨0,[],c,eZ,rfl,dF _,.refl T.rl,T,t6,my,by rw[d1];exact ha,w⟩
 obtain⟨i,acc,G,Q,hn,hi,S,v,kG,st,ac,y⟩:=h
 have u:∀b∈ys,b∈G.y:=λ b U=>S.y b (hy b U)
 have r:e∈G.y:=S.y e RX
 rcases Nat.lt_or_eq_of_le hi with M|rfl
 ·rw[List.drop_eq_getElem_cons M]at y
  refine de y.2.2 λ fn H aG=> ?_
  refine j.item i G s' _ _ M v.rl u st y.1 λ x aq l md=>j.go i vs[i] target x G aq _ _ (jr M) (Lp Vt H) l.rel u md λ aT aN iv Gd=> ?_
  have o:=l.trans aN
  refine vp hh (v.vn o nl nc) Vt iv (F9 kG H) λ bx E gC=>yi.go (yQ PO RW aG gC) λ b jU p q uh=> ?_
  have Ls:=((ac.step v.rl o r L.2.2).step o.rel E r λ h=>h.own.elim L.1 λ⟨x,h⟩=>L.2.1 x h).step E.rel q r (λ h=>h)
  have Cm:=j.keep (i+1) G bx p jU _ E.rel u (j.keep (i+1) G aT G bx _ o.rel u Gd E nd) q (λ D D h=>h)
  have Co:=S.trans (((o.mono λ b U=> .inl U).trans (E.mono λ b U=> .inr (.inl U))).trans q.bO)
  have hm:vs.length-(i+1)<n:=by exact hn▸Nat.sub_lt_sub_left M (bF _)
  induction b using Bool.casesOn with
  |false=>exact⟨_,hm,i+1,acc,p,fn,rfl,M,Co,gC.step q,(fY.asg H).symm,Cm,Ls,d1 acc▸uh⟩
  |true=>
   refine aV (Ss fn p jU (acc₀++acc) _ (fY.asg H) (gC.step q) Ls (q.y e r) ?_ uh) (λ D kT h=> ?_) λ D D z=>z
   ·exact bU▸gL (ae y.2.1) _
   ·obtain⟨je,C,eC,pS,PQ,Ta⟩:=h
    exact⟨_,hm,i+1,acc++C,je,fn,rfl,M,Co.trans (eC.mono λ b U=> .inr (.inr U)),pS,(fY.asg H).symm,j.keep (i+1) p jU je kT _ q.rel (λ b U=>q.y b (u b U)) Cm eC (λ b U=>(t b U).2.2),by rw[<-cj];exact PQ,Ta⟩
 ·rw[List.drop_length]at y
  exact j.done G s' _ _ v.rl u st y.1 λ aq l=>hR G aq acc Q (S.trans (l.mono λ b U=> .inl U)) (v.vn l nl nc) kG (ac.step v.rl l r L.2.2) y.2
theorem Ge(t:aj)(B:ar)(j:Nat):(Fw t B)[j]? =if j∈t then B[j]?.map (λ D=>V.aF)else B[j]? :=by
 induction t generalizing B with
 |nil=>rfl
 |cons i t y=>
  refine(y (B.set i .aF)).trans ?_
  rw[List.getElem?_set]
  by_cases u:i=j
  ·subst u
   rw[aw rfl,aw (List.mem_cons_self ..)]
   by_cases h:i<B.length
   ·rw[aw h,jr h];split<;>rfl
   ·rw[av h,List.getElem?_eq_none (Nat.le_of_not_lt h)];split<;>rfl
  ·rw[av u]
   by_cases h:j∈t
   ·rw[aw h,aw (.tail _ h)]
   ·rw[av h,av λ q=>(bg.mp q).elim (λ e=>u e.symm) h]
theorem Gf(t:aj)(B:ar):(Fw t B).length=B.length:=by
 induction t generalizing B with
 |nil=>rfl
 |cons i t y=>show(Fw t (B.set i .aF)).length=_;rw[y];simp
theorem yR(own:List (Str×Nat))(B:ar):unbind own B=Fw (own.map (·.2)) B:=by
 induction own generalizing B with
 |nil=>rfl
 |cons p r y=>exact y _
theorem DN(t B):fY t (Fw t B) B:=⟨Gf _ _,λ j s=>by rw[Ge,av s]⟩
theorem DP{N:aj}{t:aP}(h:yF k N t=true):(dA N t).map (·.2)=N:=FH (P:=λ N t=>(dA N t).map (·.2)=N) h (λ D D D D=>rfl) λ D D D D D D D D D D=>rfl
theorem yS{elt:aP}{m:ME}(hm:aI J pg d m)(C:bY 0 k m elt=true){b:Addr}(j:b≠env.locals/\∀x,env.cells.lookup x≠some b){B:ar}{c:Vw}{s:Shared}{acc:ar}{P:ar->Mem->Prop}(T:At J pg d k B c.Y A c s env)(z:Acc c s.heap b acc)(t:b∈c.y)(N:acc.length<=200000)(w:wE J pg d m (λ r Y=>P [r] Y) B c.Y):wpAny J.ax A (Lo elt (.ref b) env) (λ D s'=>Nc J pg d A k env B b acc (·=b) P c s s') JJ s:=ag ((hm k elt _ B c.Y A JJ c s env C w T).go λ x f c₁ v S r p=>ag (AS S.rel (z.step T.rl S t (λ h=>h)) (S.y b t) r (aa N (by decide)) λ U o e=>aA ⟨c₁,[v],S.bO.trans o,(T.step S).vn o (λ h=>j.1 h.symm) (λ x a N h=>j.2 x (h▸N)),e,p⟩))
theorem sT{R:Result->Shared->Prop}{elt:aP}{gens:List Comprehension}{sc:Scope}{pos:Pos}{depth:Nat}{I:Addr}{acc:Value}{t i:aP}{fs:List aP}(c:gens[depth]? =some ⟨t,i,fs,0⟩)(hi:∀(Q:dR)(E:dR),Q (.ref I) s->wpAny J.ax A (pyIter (.ref I)) Q E s)(q:codeAny J.ax A (.compLoop (.ListComp elt gens sc pos) depth (.ref I) acc env) R s):codeAny J.ax A (.compStart (.ListComp elt gens sc pos) depth (.ref I) acc env) R s:=by
 refine codeAny_of_tree ?_
 refine(?_:wpAny _ _ ((compStart (.ListComp elt gens sc pos) depth (.ref I) acc env).onRaise (λ x=>do noteFrame x env;standAt theWindowsPlace)) _ _ s)
 refine wpAny_notedAt ?_
 unfold compStart
 have e:(clausesOf (.ListComp elt gens sc pos))[depth]? =some ⟨t,i,fs,0⟩:=c
 rw[e]
 show wpAny _ _ (ask>>=_) _ _ s
 refine ag (wpAny_askSetting (wpAny_ite ?_))
 split
 ·first
   |exact ag (aA (aA (And.intro rfl q)))
   |exact aA (And.intro rfl q)
 ·first
   |exact ag (wpAny_rule (ag (c7 (ag (hi _ _ (aA (And.intro rfl q)))))))
   |(refine ag (wpAny_rule ?_);show wpAny _ _ (standAt i.pos>>=_) _ _ s;exact ag (c7 (ag (hi _ _ (aA (And.intro rfl q))))))
theorem Step.freshen{c G:Vw}{s s':Shared}{W W':Addr->Prop}(R:Rel J c s)(S:Step J c s G s' W')(h:∀b,W' b->W b\/s.heap.objs.size<=b):Step J c s G s' W:=(Step.refl (W:=W) R).fresh S h
structure Got(J:Cx)(c:Vw)(s:Shared)(D C:Addr)(rs:ar)(c':Vw)(s':Shared):Prop where
 S:Step J c s c' s' (λ b=>s.heap.objs.size<=b)
 hD:s.heap.objs.size<=D
 hC:s.heap.objs.size<=C
 ne:D≠C
 yD:D∈c'.y
 yC:C∈c'.y
 ac:Acc c' s'.heap D rs
 ns:∃m,s'.heap.Ns C m
theorem ye.ns(H:ye env h):∃m,h.Ns env.locals m:=by
 obtain⟨o,es,ep,e,hd,L⟩:=H.loc
 exact⟨_,o,es,ep,e,hd,L,λ D=>rfl⟩
inductive Ready(J:Cx)(pg:Pg)(d:Nat)(A:Around)(k:CC)(sc:Scope)(own:List (Str×Nat))(B:ar)(s:Shared)(P:Bool×ar×(Mem->Prop)->Mem->Prop)(I D:Addr)(eG:Env)(c₀:Vw)(fz:Shared):Prop
 |mk (ys:List Addr) (St:Nat->Vw->Heap->Prop) (Md:Nat->Value->Vw->Heap->Prop) (x:Bool×ar×(Mem->Prop)) (Tn:∀A':Around,A'.handled=none->dm J A' x.1 I ys x.2.1 x.2.2 St Md) (T:At J pg d (k.inner sc own) (unbind own B) c₀.Y A c₀ fz eG) (st:St 0 c₀ fz.heap) (mz:∀b∈ys,b∈c₀.y/\s.heap.objs.size<=b/\b<D) (RX:D∈c₀.y) (Vu:s.heap.objs.size<=D) (Yq:D<eG.locals) (Td:∀x,eG.cells.lookup x≠some D) (Vv:∀b∈ys,∀x,eG.cells.lookup x≠some b) (jZ:∀x b,(own.lookup x).isSome=true->Dk eG x b->s.heap.objs.size<=b) (ac:Acc c₀ fz.heap D []) (p:P x c₀.Y):Ready J pg d A k sc own B s P I D eG c₀ fz
theorem AV{sc:Scope}{own:List (Str×Nat)}(T:At J pg d k B Y A c s env)(n:jS k sc own=true){x:Str}(I:(x,NameKind.free)∈sc.names):(env.cells.lookup x).isSome=true:=by
 have C:env.kindOf x=some .cell->(env.cells.lookup x).isSome=true:=λ q=>by
  obtain⟨a,D,N,D⟩:=T.en.H.cell x q;rw[N];rfl
 rcases(ni n).2.2.2 x .free I with z|z|z
 ·exact z.1.elim (λ z=>nomatch z) λ z=>nomatch z
 ·exact z.2.2.elim (λ q=>C (T.kd.c x q)) λ q=>(T.kd.f x q).elim (T.en.RJ x) C
 ·exact nomatch z
theorem Gg{sc:Scope}{cl:List (Str×Addr)}{n m:Nat}(G:∀x a,(x,a)∈cl->a<m)(b:Addr)(M:b<=n)(L:m<=b)(x:Str):(qV sc cl n env).cells.lookup x≠some b:=λ e=>by
 have U:(cellsFrom (n+1) sc.names cl).lookup x=some b:=e
 rw[fW]at U
 cases q:(cellsFrom (n+1) sc.names []).lookup x with
 |some a=>
  rw[q]at U
  rw[<-show a=b from aM U]at M
  exact aC M (lG (lookup_mem q)).2
 |none=>
  rw[q]at U
  exact aC L (G x b (lookup_mem U))
theorem DQ(ok:bA J)(T:At J pg d k B Y A c s env){elt t i:aP}{fs:List aP}{rest:List Comprehension}{sc:Scope}{own:List (Str×Nat)}{pos:Pos}{it:ME}(hi:jY J pg d it)(L:bY 2 k it i=true)(l:jS k sc own=true){P:Bool×ar×(Mem->Prop)->Mem->Prop}(w:wE J pg d it (λ vi Y=>opt (jw Y vi) λ x=>P x Y) B Y){use:Option (Value->Sem Unit)}{Q:dR}{K:ar->Mem->Prop}(loop:∀I e o c₀ N(R:Result->Shared->Prop),Ready J pg d A k sc own B s P I e o c₀ N->(∀G s' m g,Step J c₀ N G s' (λ b=>s.heap.objs.size<=b)->At J pg d (k.inner sc own) g G.Y A G s' o->Acc G s'.heap e m->K m G.Y->R (.ok .next) s')->codeAny J.ax A (.compLoop (.ListComp elt (⟨t,i,fs,0⟩::rest) sc pos) 0 (.ref I) (.ref e) o) R N)(fin:∀e C m G s',Got J c s e C m G s'->K m G.Y->compPost J.ax A E use Q (.ref e) C (.ok .next) s'):wpAny J.ax A (comprehension (.ListComp elt (⟨t,i,fs,0⟩::rest) sc pos) sc env (firstIterPos (⟨t,i,fs,0⟩::rest) pos) (newList []) (firstAsync (⟨t,i,fs,0⟩::rest)) (firstIter (⟨t,i,fs,0⟩::rest) env) use) Q E s:=by
 have OJ:=ni l
 obtain⟨cl,x6,h1,h2⟩:=AO λ x=>AV T l
 refine wpAny_comprehension_free (cl:=cl) rfl (λ x=>pR L x) x6 OJ.1 (λ x u hl=>bf OJ.2.1 (hl▸u)) ?_
 refine aV (hi k i P B Y A E c s env L w T) (λ x aq d9=>aV d9 (λ it M b8=> ?_) λ D D z=>z) λ D D z=>z
 obtain⟨I,ys,St,Md,x,c₂,M,S,f,r,st,p⟩:=b8
 have y:=AK S.rel {cls:= .type "list",data:= .seq #[]} M.toks
 have j:M.heap.objs.size<(M.heap.push {cls:= .type "list",data:= .seq #[]}).objs.size:=by rw[cf];exact bF _
 refine nV (sO ?_)
 rw[List.forIn_nil]
 obtain⟨Yr,hL,Xa,v,JL,jZ,Te⟩:=JI ((T.step S).step y) l (own:=own) h1 h2 {cls:= .type "dict",data:= .dict #[]} rfl
 have PS:∀b∈ys,b<M.heap.objs.size:=λ b U=>(S.rel.eB b (f b U).1).2.1
 have Vx:=(r A T.rm.1).keep 0 _ _ _ _ _ y.rel (λ b U=>y.y b (f b U).1) ((r A T.rm.1).keep 0 _ _ _ _ _ S.rel (λ b U=>(f b U).1) st y (λ D D h=>h)) v (λ D D h=>h)
 have Lu:=Gg (env:=env) (sc:=sc) (n:=(M.heap.push {cls:= .type "list",data:= .seq #[]}).objs.size) λ x a h=>(T.en.seen x a (h1 x a h).2).2.2
 exact aA (sT (t:=t) (i:=i) (fs:=fs) rfl (λ Q E q=>(r A T.rm.1).self 0 _ _ Q E Vx q) (loop I M.heap.objs.size _ _ _ _ ⟨ys,St,Md,x,r,JL,Vx,λ b U=>⟨v.y b (y.y b (f b U).1),(f b U).2,PS b U⟩,v.y _ (.head _),S.size,j,Lu _ (dG j) S.size,λ b U=>Lu b (dG (gQ (PS b U) j)) (f b U).2,λ x b u U=>aa S.size (aa (dG j) (jZ x b u U)),Acc.step ⟨[],⟨0,bM _ rfl⟩,trivial⟩ y.rel v (.head _) (λ h=>h),p⟩ λ G s' m g H pS Tf kq=>fin _ _ m G s' ⟨((S.trans (y.trans v)).bO.trans H),S.size,aa S.size (dG j),az j,H.y _ (v.y _ (.head _)),H.y _ (gP _ hL),Tf,pS.en.H.ns⟩ kq))
structure DS(c c':Vw):Prop where
 n:c.Y.n<=c'.Y.n
 ρ:∀i,i<c.Y.n->c'.ρ i=c.ρ i
 N:∀b,c'.N b->c.N b
theorem DS.tr{c G:Vw}(k:DS c G)(h:Heap):Tr c h G h:=⟨k.n,k.ρ,λ D s z=>⟨s,λ q=>z (k.N _ q)⟩⟩
theorem ay.view{c G:Vw}(k:DS c G){vs:ar}{xs:aL}(r:ay c h vs xs):ay G h vs xs:=r.map (k.tr h)
theorem eQ.view{c G:Vw}{a:Addr}{fp:List Addr}{o:O}(k:DS c G)(I:G.x=c.x)(r:eQ J c h a fp o):eQ J G h a fp o:=r.map (k.tr h) (λ b U=>⟨I▸U,λ D e=>e⟩) λ D D D e=>e
noncomputable def Vw.drop(c:Vw)(D:Addr):Vw:={c with y:=c.y.filter λ b=> !decide (b=D)}
noncomputable def Vw.adopt(c:Vw)(D:Addr)(o:O):Vw:={ρ:=λ i=>if i=c.Y.n then D else c.ρ i,fp:=λ i=>if i=c.Y.n then[D]else c.fp i,x:=c.x,y:=c.y.filter λ b=> !decide (b=D),z:=c.z,Y:=c.Y.alloc o}
theorem cG{D b:Addr}:b∈(c.y.filter λ b=> !decide (b=D))↔b∈c.y/\b≠D:=by simp
theorem wR(c:Vw)(a:Addr):DS c (c.drop a):=⟨ai _,λ D D=>rfl,λ b U=>by
 rcases U with t|h|h
 ·exact .inl t
 ·exact .inr (.inl (cG.mp h).1)
 ·exact .inr (.inr h)⟩
theorem Rel.drop(R:Rel J c s)(D:Addr):Rel J (c.drop D) s where
 base:=R.base
 tab:=R.tab
 lq:=R.lq
 size:=R.size
 obj:=λ i hi=>(R.obj i hi).view (wR c D) rfl
 apart:=R.apart
 high:=R.high
 nJ:=R.nJ
 eB:=λ b U=>R.eB b (cG.mp U).1
 d8:=λ b U=>⟨(R.d8 b U).1,(R.d8 b U).2.1,(R.d8 b U).2.2.1,(R.d8 b U).2.2.2.1,λ q=>(R.d8 b U).2.2.2.2 (cG.mp q).1⟩
 gens:=R.gens
 os:=R.os
theorem me{D:Addr}{o:O}{b:Addr}(t:(c.adopt D o).T b):c.T b\/b=D:=by
 obtain⟨j,⟨s,hd⟩,U⟩:=t
 by_cases e:j=c.Y.n
 ·right
  have:(c.adopt D o).fp j=[D]:=aw e
  rw[this]at U;exact cR.mp U
 ·left
  have M:(c.adopt D o).fp j=c.fp j:=av e
  have u:(c.adopt D o).Y.f j=c.Y.f j:=av e
  rw[M]at U;rw[u]at hd
  exact⟨j,⟨x9 (t9 s) e,hd⟩,U⟩
theorem sU{D:Addr}{o:O}(j:D∈c.y):DS c (c.adopt D o):=⟨dC _,λ i hi=>av (az hi),λ b U=>by
  rcases U with t|h|h
  ·rcases me t with t|rfl
   ·exact .inl t
   ·exact .inr (.inl j)
  ·exact .inr (.inl (cG.mp h).1)
  ·exact .inr (.inr h)⟩
theorem Rel.adopt(R:Rel J c s){D:Addr}(A:D∈c.y){vs:ar}(z:Acc c s.heap D vs):Rel J (c.adopt D (.list vs)) s where
 base:=R.base
 tab:=R.tab
 lq:=R.lq
 size:=R.size
 obj:=λ i hi=>by
  by_cases e:i=c.Y.n
  ·subst e
   have M:(c.adopt D (.list vs)).ρ c.Y.n=D:=aw rfl
   have u:(c.adopt D (.list vs)).fp c.Y.n=[D]:=aw rfl
   have d:(c.adopt D (.list vs)).Y.f c.Y.n= .list vs:=aw rfl
   refine M.symm▸u.symm▸d.symm▸?_
   obtain⟨g,h,r⟩:=z
   exact⟨rfl,g,h,r.view (sU A)⟩
  ·have M:(c.adopt D (.list vs)).ρ i=c.ρ i:=av e
   have u:(c.adopt D (.list vs)).fp i=c.fp i:=av e
   have d:(c.adopt D (.list vs)).Y.f i=c.Y.f i:=av e
   refine M.symm▸u.symm▸d.symm▸?_
   exact(R.obj i (x9 (t9 hi) e)).view (sU A) rfl
 apart:=λ i j hi x ne b U l=>by
  have fresh:∀{j:Nat},(c.adopt D (.list vs)).live j->j≠c.Y.n->c.live j:=λ{j} x e=>by
   refine⟨x9 (t9 x.1) e,?_⟩
   have d:(c.adopt D (.list vs)).Y.f j=c.Y.f j:=av e
   exact d▸x.2
  by_cases e:i=c.Y.n
  ·by_cases G:j=c.Y.n
   ·exact ne (e.trans G.symm)
   ·have M:(c.adopt D (.list vs)).fp i=[D]:=aw e
    have u:(c.adopt D (.list vs)).fp j=c.fp j:=av G
    rw[M]at U;rw[u]at l
    have:b=D:=by exact cR.mp U
    subst this
    exact(R.eB b A).2.2.1 (Rel.di (fresh x G) l)
  ·have M:(c.adopt D (.list vs)).fp i=c.fp i:=av e
   rw[M]at U
   by_cases G:j=c.Y.n
   ·have u:(c.adopt D (.list vs)).fp j=[D]:=aw G
    rw[u]at l
    have:b=D:=by exact cR.mp l
    subst this
    exact(R.eB b A).2.2.1 (Rel.di (fresh hi e) U)
   ·have u:(c.adopt D (.list vs)).fp j=c.fp j:=av G
    rw[u]at l
    exact R.apart i j (fresh hi e) (fresh x G) ne b U l
 high:=λ b t=>by
  rcases me t with t|rfl
  ·exact R.high b t
  ·exact⟨(R.eB b A).1,(R.eB b A).2.1⟩
 nJ:=λ b U=>⟨(R.nJ b U).1,(R.nJ b U).2.1,λ t=>by
  rcases me t with t|rfl
  ·exact(R.nJ b U).2.2 t
  ·exact(R.eB b A).2.2.2 U⟩
 eB:=λ b U=>⟨(R.eB b (cG.mp U).1).1,(R.eB b (cG.mp U).1).2.1,λ t=>by
  rcases me t with t|e
  ·exact(R.eB b (cG.mp U).1).2.2.1 t
  ·exact(cG.mp U).2 e,(R.eB b (cG.mp U).1).2.2.2⟩
 d8:=λ b U=>⟨(R.d8 b U).1,(R.d8 b U).2.1,λ t=>by
  rcases me t with t|rfl
  ·exact(R.d8 b U).2.2.1 t
  ·exact(R.d8 b U).2.2.2.2 A,(R.d8 b U).2.2.2.1,λ q=>(R.d8 b U).2.2.2.2 (cG.mp q).1⟩
 gens:=R.gens
 os:=R.os
theorem Got.quiet{D C:Addr}{m:ar}{N:Vw}{s':Shared}(G:Got J c s D C m N s'){h':Heap}(L:Heap.SameBut C s'.heap h'):Step J c s N {s' with heap:=h'} (λ b=>s.heap.objs.size<=b)/\Acc N h' D m:=by
 have R:=G.S.rel
 have S:Step J N s' N {s' with heap:=h'} (·=C):=R.other (·=C) (λ b o e f=>(L.2 b f).trans e) (λ b U=>by subst U;exact⟨(R.eB b G.yC).1,(R.eB b G.yC).2.2.1,(R.eB b G.yC).2.2.2,G.yC⟩) (bN L.1.symm) rfl rfl
 exact⟨G.S.trans (S.mono λ b U=>by subst U;exact G.hC),G.ac.step R S G.yD G.ne⟩
theorem Got.list(R:Rel J c s){a C:Addr}{m:ar}{G:Vw}{s':Shared}(S:Step J c s G s' (λ b=>s.heap.objs.size<=b))(j:s.heap.objs.size<=a)(k:a∈G.y)(ac:Acc G s'.heap a m):Step J c s (G.drop a) s' cZ/\aD (G.drop a) s'.heap (.list m) (.ref a):=by
 have x:=(wR G a).N
 refine⟨⟨S.rel.drop a,⟨S.carry.n,S.carry.ρ,S.carry.fp,S.carry.old,λ b U h=>S.carry.yc b U (x b h),S.carry.seq⟩,S.x,S.rS,λ b U=>cG.mpr ⟨S.y b U,λ e=> ?_⟩,S.z,S.pz,λ b o e z D np q=>S.kept b o e z (iR.mpr (cD e)) np q,λ b o e i D=>S.ju b o e i (iR.mpr (cD e)),S.size⟩,?_⟩
 ·exact aC j (e▸(R.eB b U).2.1)
 ·obtain⟨g,M,r⟩:=ac
  refine⟨a,g,rfl,M,?_,r.view (wR G a)⟩
  rintro(t|h|h)
  ·exact(S.rel.eB a k).2.2.1 t
  ·exact(cG.mp h).2 rfl
  ·exact(S.rel.d8 a h).2.2.2.2 k
theorem Got.Ca(R:Rel J c s){a C:Addr}{m:ar}{G:Vw}{s':Shared}(S:Step J c s G s' (λ b=>s.heap.objs.size<=b))(j:s.heap.objs.size<=a)(k:a∈G.y)(ac:Acc G s'.heap a m):Step J c s (G.adopt a (.list m)) s' cZ/\aD (G.adopt a (.list m)) s'.heap (.ref G.Y.n) (.ref a):=by
 have le:=sU (o:= .list m) k
 refine⟨⟨S.rel.adopt k ac,⟨aa S.carry.n le.n,λ i hi=>(le.ρ i (ah hi S.carry.n)).trans (S.carry.ρ i hi),λ i hi=> ?_,λ b U t=> ?_,λ b U h=>S.carry.yc b U (le.N b h),S.carry.seq⟩,S.x,S.rS,λ b U=>cG.mpr ⟨S.y b U,λ e=> ?_⟩,S.z,S.pz,λ b o e z D np q=>S.kept b o e z (iR.mpr (cD e)) np q,λ b o e v D=>S.ju b o e v (iR.mpr (cD e)),S.size⟩,?_⟩
 ·exact(show(G.adopt a (.list m)).fp i=G.fp i from av (az (ah hi S.carry.n))).trans (S.carry.fp i hi)
 ·rcases me t with t|rfl
  ·exact S.carry.old b U t
  ·exact absurd U (aC j)
 ·exact aC j (e▸(R.eB b U).2.1)
 ·refine⟨bF _,?_⟩
  refine(?_:_=Value.ref (if G.Y.n=G.Y.n then _ else _))
  exact(aw rfl).symm▸rfl
noncomputable def sV(mt:Bool)(m:ar)(Q:eY)(Y:Mem):Prop:=match mt with
 |false=>Q (.list m) Y
 |true=>Q (.ref Y.n) (Y.alloc (.list m))
theorem JM(R:Rel J c s){mt:Bool}{D:Addr}{m:ar}{G:Vw}{s':Shared}(S:Step J c s G s' (λ b=>s.heap.objs.size<=b))(j:s.heap.objs.size<=D)(o:D∈G.y)(ac:Acc G s'.heap D m)(q:sV mt m Q G.Y):gy J c s Q (.ref D) s':=by
 induction mt using Bool.casesOn with
 |false=>obtain⟨l,r⟩:=Got.list (C:=D) R S j o ac;exact⟨_,_,l,r,q⟩
 |true=>obtain⟨l,r⟩:=Got.Ca (C:=D) R S j o ac;exact⟨_,_,l,r,q⟩
theorem Gh(R:Rel J c s){mt:Bool}{D:Addr}{m:ar}{G:Vw}{s':Shared}(S:Step J c s G s' (λ b=>s.heap.objs.size<=b))(j:s.heap.objs.size<=D)(o:D∈G.y)(ac:Acc G s'.heap D m)(q:sV mt m Q G.Y):∃A v,Step J c s A s' cZ/\aD A s'.heap v (.ref D)/\Q v A.Y/\∀b∈G.y,b≠D->b∈A.y:=by
 induction mt using Bool.casesOn with
 |false=>obtain⟨l,r⟩:=Got.list (C:=D) R S j o ac;exact⟨_,_,l,r,q,λ b U ne=>cG.mpr ⟨U,ne⟩⟩
 |true=>obtain⟨l,r⟩:=Got.Ca (C:=D) R S j o ac;exact⟨_,_,l,r,q,λ b U ne=>cG.mpr ⟨U,ne⟩⟩
theorem AW{own:List (Str×Nat)}{x:Str}{i:Nat}(h:(x,i)∈own):(own.lookup x).isSome=true:=d7 h
theorem JN{m:Env}{own L:List (Str×Nat)}(U:∀x b,(own.lookup x).isSome=true->Dk m x b->s.heap.objs.size<=b)(C:∀p∈L,p∈own){b:Addr}(h:yP m L b):s.heap.objs.size<=b:=let⟨x,_,I,M⟩:=h;U x b (AW (C _ I)) M
theorem sW(ok:bA J)(T:At J pg d k B Y A c s env){mt:Bool}{elt:ME}{N:aj}{it:ME}{tests:List ME}(he:aI J pg d elt)(hi:jY J pg d it)(n:∀m∈tests,eS J pg d m){e t i:aP}{fs:List aP}{sc:Scope}{pos:Pos}(L:bY 2 k it i=true)(z:jS k sc (dA N t)=true)(o:yF (k.inner sc (dA N t)) N t=true)(g:fK 1 (k.inner sc (dA N t)) tests fs=true)(y:bY 0 (k.inner sc (dA N t)) elt e=true){P:eY}(w:wE J pg d (.comp mt elt N it tests) P B Y){use:Option (Value->Sem Unit)}{Q:dR}(fin:∀a C f u s',Got J c s a C f u s'->sV mt f P u.Y->compPost J.ax A E use Q (.ref a) C (.ok .next) s'):wpAny J.ax A (comprehension (.ListComp e [⟨t,i,fs,0⟩] sc pos) sc env (firstIterPos [⟨t,i,fs,0⟩] pos) (newList []) (firstAsync [⟨t,i,fs,0⟩]) (firstIter [⟨t,i,fs,0⟩] env) use) Q E s:=by
 refine DQ ok T hi L z (P:=λ x Y=>compLoop (Ga J pg d x.1 N tests (λ v K Y=>wE J pg d elt (λ r Y=>K [r] Y) v Y) B) x.2.2 x.2.1 (λ f Y=>short f=true/\sV mt f P Y) [] Y) (by induction mt<;>exact w) (K:=λ f Y=>short f=true/\sV mt f P Y) (λ I a eG c₀ fz R h hR=> ?_) λ a C f u s' G l=>fin a C f u s' G l.2
 obtain⟨ys,St,Md,x,Tn,Th,st,j,RX,Vu,M,H,Vv,jZ,ac,p⟩:=h
 refine AU (acc₀:=[]) (B:=B) (Wm:=(·=a)) T.rm.1 (Nb ..) (Tn A T.rm.1) o n g ⟨az M,H,λ q=>d0 _ (j a q).2.2⟩ (λ b U=>⟨az (gQ (j b U).2.2 M),Vv b U,az (j b U).2.2⟩) (λ v c s JK P' D T' a' Ck ie w'=>yS he y ⟨az M,H⟩ T' a' Ck (aa ie (by decide)) w') ?_ Th st (λ b U=>(j b U).1) RX ac p λ u s' f v cU iy D Tj l=>hR u s' f v (cU.mono λ b U=>U.elim (λ U=>(j b U).2.1) λ U=>U.elim (JN jZ λ D h=>h) λ U=>U▸Vu) iy Tj l
 rw[yR,DP o]
 exact DN _ _
theorem nq:Slot "list_iterator" "__getattribute__" "object.__getattribute__":= .of (owner:="object") (n:="__getattribute__") (by rw[mI,mJ];kernel_rfl) (by decide+kernel) (by decide+kernel) (by decide+kernel) (by first|exact .inl (by decide+kernel)|exact .inr (by decide+kernel)) (by rw[eX];kernel_rfl)
theorem yT:typeOf (.builtin "list_iterator.__next__")=pure (.type "wrapper_descriptor"):=by refine(?_:builtinType _=_);rw[builtinType_eq_fast];kernel_rfl
theorem qD:Slot "wrapper_descriptor" "__get__" "wrapper_descriptor.__get__":= .of (owner:="wrapper_descriptor") (n:="__get__") (by rw[mI,mJ];kernel_rfl) (by decide+kernel) (by decide+kernel) (by decide+kernel) (by first|exact .inl (by decide+kernel)|exact .inr (by decide+kernel)) (by rw[eX];kernel_rfl)
theorem Gi:typeLookup (.type "wrapper_descriptor") "__set__"=pure none:=by rw[mI,mJ];kernel_rfl
theorem Gj:typeLookup (.type "wrapper_descriptor") "__delete__"=pure none:=by rw[mI,mJ];kernel_rfl
theorem wU:entryFor table "wrapper_descriptor.__get__"=some Builtin.«wrapper_descriptor.__get__»:=entryFor_of_tree (by kernel_rfl)
theorem yU(a b c:Value):argsOk "wrapper_descriptor.__get__" ⟨[a,b,c],[]⟩:=by first|rfl|kernel_rfl|(unfold argsOk;kernel_rfl)
theorem yV:entryFor table "object.__getattribute__"=some Builtin.«object.__getattribute__»:=entryFor_of_tree (by kernel_rfl)
theorem AX(a b:Value):argsOk "object.__getattribute__" ⟨[a,b],[]⟩:=by first|rfl|kernel_rfl|(unfold argsOk;kernel_rfl)
theorem Nd:isSubtype (.type "list_iterator") (.type "list_iterator")=pure true:=by rw[eX];kernel_rfl
theorem wV(d l:Addr)(i:Int)(t:Tok):Meets (Builtin.«wrapper_descriptor.__get__» ⟨[.builtin "list_iterator.__next__",.ref d,.type "list_iterator"],[]⟩) (λ A R s=>s.heap.get? d=some {cls:= .type "list_iterator",data:= .fields #[.ref l,.int i t]}/\R (.ok (.ret (.ref s.heap.objs.size))) {s with heap:=s.heap.push {cls:= .type "method-wrapper",data:= .fields #[.builtin "list_iterator.__next__",.ref d]}}):=Meets.of_wp λ prog w A R s L=>by
  obtain⟨hp,g,m,tk,os⟩:=s
  obtain⟨I,L⟩:=L
  have j:(⟨hp,g,m,tk,os⟩:Shared).TypeIs (.ref d) "list_iterator":=⟨_,I,rfl⟩
  have q:(".".intercalate ("list_iterator.__next__".cutAt '.').dropLast)="list_iterator":=by decide+kernel
  have M:isSubtype (Value.type "list_iterator") (Value.type (".".intercalate ("list_iterator.__next__".cutAt '.').dropLast))=pure true:=by rw[q];exact Nd
  unfold Builtin.«wrapper_descriptor.__get__»
  repeat(any_goals (first|assumption|wp_step))
  exact⟨_,rfl,L⟩
theorem uj(d l:Addr)(i:Int)(t u:Tok):Meets (Builtin.«object.__getattribute__» ⟨[.ref d,.str "__next__" u],[]⟩) (λ A R s=>s.heap.get? d=some {cls:= .type "list_iterator",data:= .fields #[.ref l,.int i t]}/\R (.ok (.ret (.ref s.heap.objs.size))) {s with heap:=s.heap.push {cls:= .type "method-wrapper",data:= .fields #[.builtin "list_iterator.__next__",.ref d]}}):=Meets.of_wp λ prog w A R s L=>by
  obtain⟨hp,g,m,tk,os⟩:=s
  obtain⟨I,L⟩:=L
  have j:(⟨hp,g,m,tk,os⟩:Shared).TypeIs (.ref d) "list_iterator":=⟨_,I,rfl⟩
  have f1:=slot_listiter_next.lookup
  have f2:=yT
  have e:=qD.lookup
  have y:=Gi
  have r:=Gj
  have C:(["__module__","__name__","__qualname__","__doc__","__annotations__"]:List Str).contains ("__next__":Str)=false:=by decide+kernel
  unfold Builtin.«object.__getattribute__»
  repeat(any_goals (first|assumption|((with_reducible show wpAny _ _ (call (Value.builtin "wrapper_descriptor.__get__") _ _) _ _ _);refine kB qD (T:="wrapper_descriptor") (by assumption) wU (yU _ _ _) (wV d l i t) ⟨I,?_⟩)|wp_step))
  exact aA ⟨_,rfl,L⟩
theorem qW{prog:Program}{w:World}{d l:Addr}{i:Int}{t:Tok}{Q:dR}(I:s.heap.get? d=some {cls:= .type "list_iterator",data:= .fields #[.ref l,.int i t]})(h:Q (.ref s.heap.objs.size) {s with heap:=s.heap.push {cls:= .type "method-wrapper",data:= .fields #[.builtin "list_iterator.__next__",.ref d]},toks:=s.toks+1}):wpAny (model prog w) A (getAttr (.ref d) "__next__" true) Q E s:=by
 obtain⟨hp,g,m,tk,os⟩:=s
 have j:∀n,(⟨hp,g,m,n,os⟩:Shared).TypeIs (.ref d) "list_iterator":=λ D=>⟨_,I,rfl⟩
 have e:=nq.lookup
 have y:=nq.bind (.ref d)
 unfold getAttr getAttrBy
 repeat(any_goals (first|assumption|exact j _|((with_reducible show wpAny _ _ (call (Value.builtin "object.__getattribute__") _ _) _ _ _);refine kB nq (j _) yV (AX _ _) (uj d l i t _) ⟨I,?_⟩)|wp_step))
 refine(?_:wpAny _ _ (handedOut (.ref _)) _ _ _)
 rw[handedOut_of rfl]
 exact aA h
theorem sX:Slot "method" "__call__" "method.__call__":= .of (owner:="method") (n:="__call__") (by rw[mI,mJ];kernel_rfl) (by decide+kernel) (by decide+kernel) (by decide+kernel) (by first|exact .inl (by decide+kernel)|exact .inr (by decide+kernel)) (by rw[eX];kernel_rfl)
theorem AY(a b:Value):argsOk "iter" ⟨[a,b],[]⟩:=by unfold argsOk;kernel_rfl
theorem AZ{prog:Program}{w:World}{q fn self:Addr}{x:Str}{t:Tok}{Q:dR}(b:s.heap.get? q=some (methodObj (.ref fn) (.ref self)))(h:Q (.ref s.heap.objs.size) {s with heap:=s.heap.push {cls:= .type "callable_iterator",data:= .fields #[.ref q,.str x t,.bool false]}}):wpAny (model prog w) A (call (.builtin "iter") [.ref q,.str x t]) Q E s:=by
 refine Calls.call_function_entry (by decide+kernel) (by decide+kernel) kdk_entry_iter (AY _ _) ?_
 unfold Builtin.«iter»
 refine ag (m:=someArgs "iter" 1 2 _) (gv (a:=[Value.ref q,.str x t]) (by first|rfl|kernel_rfl!) ?_)
 obtain⟨hp,g,f,tk,os⟩:=s
 have j:(⟨hp,g,f,tk,os⟩:Shared).TypeIs (.ref q) "method":=⟨_,b,rfl⟩
 have f1:=sX.lookup
 repeat(any_goals (first|assumption|wp_step))
 exact⟨_,rfl,h⟩
theorem sY{o:aP}{attr:Str}{p:Pos}{Q:dR}(L:d6 o=true)(h:wpAny J.ax A (eval o env) (λ x w=>wpAny J.ax A (getAttr x attr true) Q E w) E s):wpAny J.ax A (eval (.Attribute o attr p) env) Q E s:=by
 rw[arm_eval_Attribute,oB L]
 refine ag (aV h (λ x w q=> ?_) λ D D z=>z)
 exact ag (c7 (ag (bX (aV q (λ y U j=>ag (wpAny_letTemporaryGo (aA j))) λ D D z=>z))))
theorem jf{x:Str}{np p:Pos}{as:List aP}{Q:dR}(h:wpAny J.ax A (eval (.Name x np) env) (λ g w=>wpAny J.ax A (callWith p g [] (backTo p (starEach as env)) (backToKw p (keywordEach [] env))) Q E w) E s):wpAny J.ax A (eval (.Call (.Name x np) as [] p) env) Q E s:=ag h
theorem wW{s s':Shared}{a:Addr}{fp x:List Addr}{o:O}:aD (c.new a fp x o) h (.ref c.Y.n) (.ref a):=⟨bF _,by refine(?_:_=Value.ref (if c.Y.n=c.Y.n then _ else _));exact(aw rfl).symm▸rfl⟩
theorem sZ(h:Heap)(o M:Obj):((h.push o).push M).objs.size=h.objs.size+2:=by rw[cf,cf]
theorem s6{P:Addr->Prop}{a b:Addr}(z:P a)(U:P b):∀x∈[a,b],P x:=λ x h=>(bg.mp h).elim (λ e=>e▸z) λ h=>cR.mp h▸U
theorem wX{P:Addr->Prop}{a:Addr}(z:P a):∀x∈[a],P x:=λ x h=>cR.mp h▸z
theorem A0(R:Rel J c s){i:Nat}{vs:ar}(hi:i<c.Y.n)(j:(c.Y.f i).fq=some vs)(q:Q (.ref c.Y.n) (c.Y.alloc (.xX i 0))):wpAny J.ax A (call (.builtin "iter") [.ref (c.ρ i)]) (λ x p=>wpAny J.ax A (getAttr x "__next__" true) (gy J c s Q) E p) E s:=by
 have t:=R.obj i hi
 rw[O.uT j]at t
 obtain⟨D,T,h,D⟩:=t
 refine Calls.call_function_entry (by decide+kernel) (by decide+kernel) kdk_entry_iter (kdk_args_iter _) ?_
 unfold Builtin.«iter»
 refine ag (m:=someArgs "iter" 1 2 _) (gv (a:=[Value.ref (c.ρ i)]) (by first|rfl|kernel_rfl!) ?_)
 show wpAny _ _ (pyIter (.ref (c.ρ i))>>=_) _ _ _
 refine ag (wpAny_pyIter_list h.isList (aA ⟨_,rfl,qW (bM _ rfl) ?_⟩))
 have n:(s.heap.push {cls:= .type "list_iterator",data:= .fields #[.ref (c.ρ i),.int 0 0]}).objs.size=s.heap.objs.size+1:=cf ..
 have v:=sZ s.heap {cls:= .type "list_iterator",data:= .fields #[.ref (c.ρ i),.int 0 0]} {cls:= .type "method-wrapper",data:= .fields #[.builtin "list_iterator.__next__",.ref s.heap.objs.size]}
 exact⟨_,_,R.new _ [_,s.heap.objs.size] [] (.xX i 0) (λ D D e=>bt _ (bt _ e)) (v▸au ..) rfl rfl (s6 ⟨n▸dC _,by refine(?_:_<Array.size _);refine v.symm▸n.symm▸?_;exact bF _⟩ ⟨ai _,by refine(?_:_<Array.size _);refine v.symm▸?_;exact uJ (by decide)⟩) nofun λ g=>⟨s.heap.objs.size,rfl,by refine n.symm▸?_;exact qo _,gO hi,bM _ rfl,_,bt _ (bM _ rfl),rfl,by refine(g.ρ i hi).symm▸?_;rfl⟩,wW (s:=s) (s':=s),q⟩
theorem Gk(N:cM J pg)(j:Nat){o:ME}(m:cW J pg d [o]):aI J pg d (.r9 j o):=by
 intro k e Q B Y A E c s env h w T
 refine bG (P:=λ e=>bL J A E c s (eval e env) Q) h λ e name H h=> ?_
 refine fT (P:=λ e=>bL J A E c s (eval (.Attribute e name H) env) Q) h λ g as ks p h=> ?_
 have h:=ao h
 refine(mw h.1).symm▸?_
 refine bW (P:=λ g=>bL J A E c s (eval (.Attribute (.Call g as [] p) name H) env) Q) h.2 λ x np h=> ?_
 refine yA (P:=λ as=>bL J A E c s (eval (.Attribute (.Call (.Name x np) as [] p) name H) env) Q) h λ l h=> ?_
 have h:=ao h
 have M:=ao h.1
 have u:=ao M.1
 have no:=l8 M.2 h.2
 refine(bh u.2).symm▸?_
 refine sY rfl (jf (wJ N T u.1 λ v y n r=> ?_))
 rw[F5 n]at r
 refine(show y= .builtin "iter" from r).symm▸?_
 refine bQ (kH.go (eT (ks:=[]) (ns:=[]) (kws:=[]) (P:=λ vs ws Y=>Vk vs λ v=>match v with| .ref i=>opt (Y.f i).fq (λ D=>Q (.ref Y.n) (Y.alloc (.xX i 0)))|_=>False) m (λ b I=>by cases I;exact nf no.symm) jV (sN no M.2 h.2 rfl) (Bool.or_true _) rfl rfl rfl (by
   refine(sD no).symm▸?_
   exact w) T) λ a L c₂ vs ws G f C U=>⟨⟨.machine,Looks.now⟩,?_⟩)
 refine C.no.symm▸?_
 obtain⟨v,rfl,U⟩:=SD U
 obtain⟨x,t,r⟩:=f.one
 refine t.symm▸?_
 refine sj (P:=λ v=>aD c₂ L.heap v x->_) U (λ i U r=>de U λ vs n q=> ?_) r
 refine r.2.symm▸?_
 exact aV (A0 (E:=E) G.rel r.1 n q) (λ x aq h=>aV h (λ D D h=>h.after G) λ D D z=>z) λ D D z=>z
theorem Gl(ok:bA J)(h:cM J pg)(R:Rel J c s){i C fa m:Nat}{as:List (Nat×V)}{b:Bool}{Q:dR}(hi:i<c.Y.n)(e:c.Y.f i= .inst C as)(z:pg.insts.contains C=true)(hm:pg.aY C m=some fa)(q:Q (.ref s.heap.objs.size) {s with heap:=s.heap.push (methodObj (.ref fa) (.ref (c.ρ i))),toks:=s.toks+1}):wpAny J.ax A (getAttr (.ref (c.ρ i)) (ba m) b) Q E s:=by
 obtain⟨M,u,l,w,T,p,U⟩:=h.aY C m fa hm z
 have ic:=h.inst C z
 obtain⟨d,es,ep,D,D,D,r,I⟩:=inst_at R hi e
 have fn:es.find? (·.key.isStr (ba m))=none:=by
  rw[List.find?_eq_none]
  intro G y
  obtain⟨k,t,H,g⟩:=r.keys G y
  refine g.symm▸?_
  refine(?_:¬(attrName k==ba m)=true)
  simp[l k H]
 have N:lookIn (ba m) (dictOf es ep)=some none:=by
  unfold lookIn dictOf
  simp[fn,r.noRef]
 exact get_bind (R.K ok) I ic.ga (findObj_fn ic.hd M T p U N) ic.gk (wpAny_call (fn_get (s:={s with toks:=s.toks+1}) (R.K ok) u (handed_on rfl q)))
theorem DT(R:Rel J c s){i fa:Nat}(hi:i<c.Y.n){tk:Tok}(q:Q (.ref c.Y.n) (c.Y.alloc (.dX fa (.ref i)))):wpAny J.ax A (call (.builtin "iter") [.ref s.heap.objs.size,.str Str.empty (s.toks+1)]) (gy J c s Q) E {s with heap:=s.heap.push (methodObj (.ref fa) (.ref (c.ρ i))),toks:=tk}:=by
 have b:(s.heap.push (methodObj (.ref fa) (.ref (c.ρ i)))).get? s.heap.objs.size=some (methodObj (.ref fa) (.ref (c.ρ i))):=bM _ rfl
 have n:(s.heap.push (methodObj (.ref fa) (.ref (c.ρ i)))).objs.size=s.heap.objs.size+1:=cf ..
 have v:=sZ s.heap (methodObj (.ref fa) (.ref (c.ρ i))) {cls:= .type "callable_iterator",data:= .fields #[.ref s.heap.objs.size,.str Str.empty (s.toks+1),.bool false]}
 exact AZ b ⟨_,_,R.new _ [_] [s.heap.objs.size] (.dX fa (.ref i)) (λ D D e=>bt _ (bt _ e)) (v▸au ..) rfl rfl (wX ⟨n▸dC _,by refine(?_:_<Array.size _);refine v.symm▸n.symm▸?_;exact bF _⟩) (wX ⟨ai _,λ h=>qo _ (n.symm.trans (cR.mp h).symm),_,bt _ b⟩) λ g=>⟨rfl,s.heap.objs.size,_,bM _ rfl,.head _,.ref (c.ρ i),bt _ b,gO hi,by exact(g.ρ i hi).symm▸rfl⟩,wW (s:=s) (s':=s),q⟩
theorem PU{P:Const->Prop}{f:Str->Bool}{c:Const}(h:Po c f=true)(g:∀e,f e=true->P (.str e)):P c:=by
 induction c using Const.casesOn with
 |str e=>exact g e h
 |_=>exact nf h
theorem Gm{e:Str}(h:(e.cps.toList==[])=true):e=Str.empty:=by
 obtain⟨⟨l⟩⟩:=e
 refine(show l=[] from bh h).symm▸?_
 rfl
theorem JO(ok:bA J)(U:cM J pg)(j:Nat){o:ME}(t:aI J pg d o):aI J pg d (.dX j o):=by
 intro k e Q B Y A E c s env h w T
 refine fT (P:=λ e=>bL J A E c s (eval e env) Q) h λ g as ks p h=> ?_
 have h:=ao h
 refine(mw h.1).symm▸?_
 refine bW (P:=λ g=>bL J A E c s (eval (.Call g as [] p) env) Q) h.2 λ x np h=> ?_
 refine Jg (P:=λ as=>bL J A E c s (eval (.Call (.Name x np) as [] p) env) Q) h λ m b h=> ?_
 refine bG (P:=λ m=>bL J A E c s (eval (.Call (.Name x np) [m,b] [] p) env) Q) h λ M name H h=> ?_
 refine iw (P:=λ b=>bL J A E c s (eval (.Call (.Name x np) [.Attribute M name H,b] [] p) env) Q) h λ u kd G h=> ?_
 refine PU (P:=λ u=>bL J A E c s (eval (.Call (.Name x np) [.Attribute M name H,.Constant u kd G] [] p) env) Q) h λ e h=> ?_
 have f:=ao h
 have n:=ao f.1
 have l:=ao n.1
 have L:=ao l.1
 refine(Gm n.2).symm▸(bh l.2).symm▸?_
 refine jf (wJ U T L.1 λ v y N r=> ?_)
 rw[F5 N]at r
 refine(show y= .builtin "iter" from r).symm▸?_
 refine bQ (dQ rfl rfl (wpAny_items_cons (sY L.2 ((t k M _ B Y A E c s env f.2 w T).go λ x I c₁ v S r a=>sj (P:=λ v=>aD c₁ I.heap v x->_) a (λ i a r=>instP a λ C K8 e a=>de a.2 λ fa hm q=> ?_) r)) rfl))
 refine r.2.symm▸?_
 exact Gl ok U S.rel r.1 e a.1 hm (wpAny_items_cons (wpAny_mkText (wpAny_items_nil (aA ⟨⟨.machine,Looks.now⟩,aV (DT (E:=E) S.rel r.1 q) (λ D D h=>h.after S) λ D D z=>z⟩))) rfl)
structure All(J:Cx)(pg:Pg)(d:Nat)(m:ME):Prop where
 e:aI J pg d m
 t:eS J pg d m
 i:jY J pg d m
 st:∀a,m= .star a->aI J pg d a
theorem mS{ms:List ME}(h:∀m∈ms,All J pg d m):cW J pg d ms:=by
 induction ms with
 |nil=>exact Js
 |cons m ms y=>
  have b:=y λ o h'=>h o (.tail _ h')
  have hm:=h m (.head _)
  cases L:m.isStar with
  |false=>exact MV L hm.e b
  |true=>exact ME.lX (P:=λ m=>All J pg d m->cW J pg d (m::ms)) L (λ a hm=>FO (hm.st a rfl) b) hm
theorem PV{ms:List ME}(h:∀m∈ms,All J pg d m):l7 J pg d ms:=by
 induction ms with
 |nil=>exact jV
 |cons m ms y=>exact FR (h m (.head _)).e (y λ a h'=>h a (.tail _ h'))
theorem Lv{ms:List ME}(h:∀m∈ms,All J pg d m):lZ J pg d ms:=by
 induction ms with
 |nil=>exact Jv
 |cons m ms y=>exact FQ (h m (.head _)).t (y λ a h'=>h a (.tail _ h'))
theorem vt{ms:List ME}(h:∀m∈ms,All J pg d m):∀a,ms=[.star a]->aI J pg d a:=λ a e=>(h (.star a) (e▸.head _)).st a rfl
theorem all_plain(ok:bA J){m:ME}(he:aI J pg d m)(q:FI m=false)(M:∀k e,bY 1 k m e=true->bY 0 k m e=true)(u:∀k e,bY 2 k m e=true->bY 0 k m e=true)(L:∀a,m≠.star a):All J pg d m:=⟨he,FP he q M,sM ok he u,λ a e=>absurd e (L a)⟩
theorem s7{m:ME}(u:eS J pg d m)(M:∀k e,bY 0 k m e≠true)(H:∀k e,bY 2 k m e≠true)(L:∀a,m≠.star a):All J pg d m:=⟨λ k e Q B Y A E c s env h w T=>(M k e h).elim,u,λ k e Q B Y A E c s env h w T=>(H k e h).elim,λ a e=>absurd e (L a)⟩
theorem wY{m:ME}(hi:jY J pg d m)(M:∀k e,bY 0 k m e≠true)(u:∀k e,bY 1 k m e≠true)(L:∀a,m≠.star a):All J pg d m:=⟨λ k e Q B Y A E c s env h w T=>(M k e h).elim,λ k e Q B Y A E c s env h w T=>(u k e (ao h).2).elim,hi,λ a e=>absurd e (L a)⟩
theorem PW{P:Comprehension->Prop}{g:Comprehension}(h:decide (g.is_async=0)=true)(f:P ⟨g.target,g.iter,g.ifs,0⟩):P g:=by
 obtain⟨t,i,fs,a⟩:=g
 refine(show a=0 from ae h).symm▸?_
 exact f
theorem Ng(ok:bA J)(mt:Bool){elt:ME}(N:aj){it:ME}{tests:List ME}(he:aI J pg d elt)(hi:jY J pg d it)(n:∀m∈tests,eS J pg d m):aI J pg d (.comp mt elt N it tests):=by
 intro k e Q B Y A E c s env h w T
 refine sy (P:=λ e=>bL J A E c s (eval e env) Q) h λ e U sc pos h=> ?_
 refine yA (P:=λ U=>bL J A E c s (eval (.ListComp e U sc pos) env) Q) h λ g h=> ?_
 have p:=ao h
 have f:=ao p.1
 have r:=ao f.1
 have u:=ao r.1
 have M:=ao u.1
 refine PW (P:=λ g=>bL J A E c s (eval (.ListComp e [g] sc pos) env) Q) M.1 ?_
 rw[eval_ListComp]
 refine sW ok T (use:=none) he hi n M.2 u.2 r.2 f.2 p.2 w λ D C j I s' G q=> ?_
 obtain⟨m,hm⟩:=G.ns
 exact⟨m,hm,λ h' L=>have z:=G.quiet L;JM T.rl z.1 G.hD G.yD z.2 q⟩
theorem Nh{a:ME}(z:aI J pg d a):aI J pg d (.Fo a):=by
 intro k e Q B Y A E c s env h w T
 refine yB (P:=λ e=>bL J A E c s (eval e env) Q) h λ vs p h=> ?_
 refine yA (P:=λ vs=>bL J A E c s (eval (.JoinedStr vs p) env) Q) h λ v h=> ?_
 exact z k v Q B Y A E c s env h w T
theorem Cp{m:ME}(h:All J pg d m):∀a∈[m],All J pg d a:=λ a e=>cR.mp e▸h
set_option maxHeartbeats 4000000 in
theorem all(ok:bA J)(M:cM J pg)(G:cF J)(m:ME):All J pg d m:=by
 induction m using ME.rec (motive_2:=λ ms=>∀m∈ms,All J pg d m) (motive_3:=λ o=>sH J pg d o)with
 |lit v=>exact all_plain ok (Pt v) rfl (λ _ _ h=>h) (λ _ _ h=>h) nofun
 |var i=>exact all_plain ok (Pu i) rfl (λ _ _ h=>h) (λ _ _ h=>h) nofun
 |ck i=>exact all_plain ok (Pw M i) rfl (λ _ _ h=>h) (λ _ _ h=>h) nofun
 |bin op a b z U=>exact all_plain ok (Px op z.e U.e) rfl (λ _ _ h=>h) (λ _ _ h=>h) nofun
 |cmp op a b z U=>exact⟨Lb ok op z.e U.e,MY ok op z.e U.e,sM ok (Lb ok op z.e U.e) (λ _ _ h=>h),nofun⟩
 |pF a N b I e z U he=>exact⟨FN ok N I z.e U.e he.e,Ju ok N I z.e U.e he.e,sM ok (FN ok N I z.e U.e he.e) (λ _ _ h=>h),nofun⟩
 |neg a z=>exact all_plain ok (Py z.e) rfl (λ _ _ h=>h) (λ _ _ h=>h) nofun
 |EZ t a b u z U=>exact all_plain ok (PA u.t z.e U.e) rfl (λ _ _ h=>nf h) (λ _ _ h=>nf h) nofun
 |bor a b z U=>exact all_plain ok (PB z.e U.e) rfl (λ _ _ h=>nf h) (λ _ _ h=>nf h) nofun
 |call f args ns kws r z H=>exact all_plain ok (s_call G ns r.e (mS z) (vt z) (PV H)) rfl (λ _ _ h=>h) (λ _ _ h=>h) nofun
 |star a z=>exact⟨λ k e Q B Y A E c s env h w T=>w.elim,λ k e Q B Y A E c s env h w T=>w.elim,λ k e Q B Y A E c s env h w T=>w.elim,λ b e=>by cases e;exact z.e⟩
 |aY o m args p z=>exact all_plain ok (M1 ok M G m p.e (mS z) (vt z)) rfl (λ _ _ h=>h) (λ _ _ h=>h) nofun
 |mP o m args p z=>exact all_plain ok (Jx ok M G m p.e (mS z) (vt z)) rfl (λ _ _ h=>h) (λ _ _ h=>h) nofun
 |attr o j p=>exact all_plain ok (MR ok M j p.e) rfl (λ _ _ h=>h) (λ _ _ h=>h) nofun
 |slot o j p=>exact all_plain ok (MT ok M j p.e) rfl (λ _ _ h=>h) (λ _ _ h=>h) nofun
 |sub o i p hi=>exact all_plain ok (Pz p.e hi.e) rfl (λ _ _ h=>h) (λ _ _ h=>h) nofun
 |slice o lo hi p L l=>exact all_plain ok (JA p.e L l) rfl (λ _ _ h=>h) (λ _ _ h=>h) nofun
 |list mt es he=>exact all_plain ok (MW mt (mS he)) rfl (λ _ _ h=>h) (λ _ _ h=>h) nofun
 |tuple es he=>exact all_plain ok (Jt (mS he)) rfl (λ _ _ h=>h) (λ _ _ h=>h) nofun
 |qu=>exact all_plain ok Jq rfl (λ _ _ h=>h) (λ _ _ h=>h) nofun
 |comp mt elt C it tests he hi u=>exact all_plain ok (Ng ok mt C he.e hi.i (λ m hm=>(u m hm).t)) rfl (λ _ _ h=>h) (λ _ _ h=>h) nofun
 |uf a z=>exact s7 (MZ z.t) (λ _ _ h=>nf h) (λ _ _ h=>nf h) nofun
 |qT es he=>exact s7 (M0 (Lv he)) (λ _ _ h=>nf h) (λ _ _ h=>nf h) nofun
 |Mw es he=>exact s7 (PC (Lv he)) (λ _ _ h=>nf h) (λ _ _ h=>nf h) nofun
 |zip j a b z U=>exact wY (Na M j (mS λ m hm=>(bg.mp hm).elim (λ e=>e▸z) λ h=>Cp U m h)) (λ _ _ h=>nf h) (λ _ _ h=>nf h) nofun
 |range j as z=>exact wY (F6 M j (mS z) (vt z)) (λ _ _ h=>nf h) (λ _ _ h=>nf h) nofun
 |values o p=>exact wY (DM ok p.e) (λ _ _ h=>nf h) (λ _ _ h=>nf h) nofun
 |dX j o p=>exact all_plain ok (JO ok M j p.e) rfl (λ _ _ h=>h) (λ _ _ h=>h) nofun
 |r9 j o p=>exact all_plain ok (Gk M j (mS (Cp p))) rfl (λ _ _ h=>h) (λ _ _ h=>h) nofun
 |mulM a b z U=>exact all_plain ok (MX z.e U.e) rfl (λ _ _ h=>h) (λ _ _ h=>h) nofun
 |Fo a z=>exact all_plain ok (Nh z.e) rfl (λ _ _ h=>h) (λ _ _ h=>h) nofun
 |nil=>rename_i m h;exact nomatch h
 |cons m ms y g=>rename_i x h;exact(bg.mp h).elim (λ e=>e▸y) λ h=>g x h
 |none=>exact Jy
 |some m n=>exact Jz n.e
noncomputable def DU(U:List (Int×Value))(k:Int)(x:Value):List (Int×Value):=match U with
 |[]=>[(k,x)]
 |(j,w)::r=>if j=k then(j,x)::r else(j,w)::DU r k x
theorem A1{k:Int}{x:Value}{U:List (Int×Value)}(m:(U.map (·.1)).Nodup):stored U k x=DU U k x:=by
 induction U with
 |nil=>rfl
 |cons p r y=>
  obtain⟨j,w⟩:=p
  rw[gu,fh]at m
  unfold stored
  refine(?_:_=(if j=k then(j,x)::r else(j,w)::DU r k x))
  by_cases e:j=k
  ·subst e
   rw[aw (by simp),aw rfl,gu,aw rfl,map_store_of_not_mem r j x m.1]
  ·rw[av e,<-y m.2]
   unfold stored
   rw[List.any_cons,cg e,Bool.false_or]
   split
   ·rw[gu,av e]
   ·rfl
theorem cT.put{k:Int}{v:V}{x:Value}(o:aD c h v x){bC:List (Int×V)}{U:List (Int×Value)}(r:cT c h bC U):cT c h (putD bC k v) (DU U k x):=r.ind (P:=λ bC U=>cT c h (putD bC k v) (DU U k x)) ⟨rfl,o,trivial⟩ λ j w r y es q q2 g=>by
  refine(?_:cT c h (if j=k then(j,v)::r else(j,w)::putD r k v) (if j=k then(j,x)::es else(j,y)::DU es k x))
  by_cases e:j=k
  ·rw[aw e,aw e];exact⟨rfl,o,q2⟩
  ·rw[av e,av e];exact⟨rfl,q,g⟩
theorem cT.del{k:Int}{bC:List (Int×V)}{U:List (Int×Value)}(r:cT c h bC U):cT c h (bC.filter λ N=> !decide (N.1=k)) (without U k):=r.ind (P:=λ bC U=>cT c h (bC.filter λ N=> !decide (N.1=k)) (without U k)) trivial λ j w r y es q q2 g=>by
  unfold without at g⊢
  rw[kZ,kZ]
  by_cases e:j=k
  ·rw[av (by rw[af e];exact kW),av λ h=>(ae (p:=¬_) h) e];exact g
  ·rw[aw (by rw[cg e];rfl),aw (af (p:=¬_) e)];exact⟨rfl,q,g⟩
theorem ay.set{v:V}{x:Value}(o:aD c h v x){vs:ar}{xs:aL}(j:Nat)(r:ay c h vs xs):ay c h (vs.set j v) (xs.set j x):=r.ind (P:=λ vs xs=>∀j:Nat,ay c h (vs.set j v) (xs.set j x)) (λ D=>trivial) (λ D D D D r m y j=>Nat.casesOn j ⟨o,m⟩ λ j=>⟨r,y j⟩) j
theorem Rel.Ni(R:Rel J c s){i:Nat}(hi:i<c.Y.n)(hd:c.Y.f i≠.dead)(A:c.fp i=[c.ρ i])(o:O){h':Heap}(tk:Nat)(L:Heap.SameBut (c.ρ i) s.heap h')(new:Carry c s.heap (c.set i o) h'->eQ J (c.set i o) h' (c.ρ i) [c.ρ i] o):Step J c s (c.set i o) {s with heap:=h',toks:=tk} cZ:=R.upd (s':={s with heap:=h',toks:=tk}) ⟨hi,hd⟩ o (λ b t h U=>(L.2 b λ q=>U (by rw[A,q];exact .head _)).trans h) (bN L.1.symm) rfl rfl (by exact A▸new)
theorem yW{l:Addr}{g:aL}{k:Int}{t:Tok}{v:Value}{Q:Unit->Shared->Prop}(N:SeqAt s.heap "list" l g)(i:0<=k)(U:k<2^62)(w:k<g.length)(q:∀s',s'={s with heap:=s.heap.update l (Obj.mapSeq (·.setIfInBounds k.toNat v))}->SeqAt s'.heap "list" l (g.set k.toNat v)->Q () s'):wpAny J.ax A (setItem (.ref l) (.int k t) v) Q E s:=by
 obtain⟨n,p⟩:=N
 have d:s.TypeIs (.ref l) "list":=⟨_,p,rfl⟩
 unfold setItem
 try with_reducible refine bX ?_
 refine ag (wpAny_sequenceKey d (by decide) ?_)
 refine ag (rR (name:=Str.ofString "__setitem__") d slot_list_setitem (mL slot_list_setitem d entry_list_setitem ?_ (args_list_setitem _ _ _)))
 show wpAny _ _ (Builtin.List.listSubscript? (.int k t)>>=_) _ _ s
 refine ag (wpAny_listSubscript_int (fitsIndex_of i (by omega)) ?_)
 clear U
 obtain⟨j,rfl⟩:=Int.eq_ofNat_of_zero_le i
 have b:j<g.toArray.size:=by simp;omega
 show wpAny _ _ ((seqItemAt l j>>=λ r=>pure (r.map (j,·)))>>=_) _ _ s
 refine ag (ag (wpAny_seqItemAt p rfl (aA ?_)))
 rw[nT b]
 show wpAny _ _ (setSeqItemAt l j v>>=_) _ _ s
 refine ag (wpAny_setSeqItemAt p rfl ?_)
 have fin:Q () {s with heap:=s.heap.update l (Obj.mapSeq (·.setIfInBounds j v))}:=q _ rfl (by
  have u:=IsL.update (n:=n) p (·.setIfInBounds j v)
  have e:g.toArray.setIfInBounds j v=(g.set j v).toArray:=by exact aw ‹_›
  rw[e]at u
  exact⟨_,u⟩)
 first
  |exact ag (aA (aA ⟨.none,rfl,aA fin⟩))
  |exact aA ⟨.none,rfl,aA fin⟩
theorem set_list(R:Rel J c s){a:Nat}{vs:ar}{k:Int}{t:Tok}{v:V}{z:Value}{Q:Mem->Prop}(hi:a<c.Y.n)(e:c.Y.f a= .list vs)(i:0<=k)(H:k<vs.length)(L:vs.length<=100000)(r3:aD c s.heap v z)(q:Q (c.Y.set a (.list (vs.set k.toNat v)))):I7 J A E c s (setItem (.ref (c.ρ a)) (.int k t) z) Q:=by
 have r:=R.obj a hi
 rw[e]at r
 obtain⟨u,p,x,m⟩:=r
 refine yW x i (by omega) (by exact m.length▸H) λ s' b T=> ?_
 subst b
 exact⟨_,R.Ni hi (by rw[e];nofun) u (.list (vs.set k.toNat v)) s.toks (.update ..) λ g=>⟨rfl,_,T,(m.carry g).set (r3.carry g) _⟩,q⟩
theorem isInt_self{k:Int}{t:Tok}:(intKind J.prog J.w).is k (.int k t)=true:=hZ k
theorem set_dict(R:Rel J c s){a:Nat}{bC:List (Int×V)}{ep:Nat}{k:Int}{t:Tok}{v:V}{z:Value}{Q:Mem->Prop}(hi:a<c.Y.n)(e:c.Y.f a= .dict bC ep)(M:bC.length<=100000)(r3:aD c s.heap v z)(q:∀ep,Q (c.Y.set a (.dict (putD bC k v) ep))):I7 J A E c s (setItem (.ref (c.ρ a)) (.int k t) z) Q:=by
 have r:=R.obj a hi
 rw[e]at r
 obtain⟨u,G,i,b⟩:=r
 refine wpAny_setItem_pairs (knd:=intKind J.prog J.w) (k:=k) isInt_self i.dictOf (λ h' hd L=> ?_) (by rw[<-b.vals.1,aQ];exact aa M (by decide))
 obtain⟨l,U⟩:=hd.dictAt
 rw[A1 i.nodup]at U
 exact⟨_,R.Ni hi (by rw[e];nofun) u (.dict (putD bC k v) l) (s.toks+1) L λ g=>⟨rfl,_,U,(b.carry g).put (r3.carry g)⟩,q l⟩
theorem oJ(R:Rel J c s){o i v:V}{x y z:Value}{f:Nat->Mem}{Q:Mem->Prop}(r1:aD c s.heap o x)(r2:aD c s.heap i y)(r3:aD c s.heap v z)(h:jd c.Y o i v=some f)(q:∀ep,Q (f ep)):I7 J A E c s (setItem x y z) Q:=by
 obtain⟨a,rfl,g⟩:=Aw h
 obtain⟨k,rfl,g⟩:=pG g
 obtain⟨hi,rfl⟩:=r1
 obtain⟨t,rfl⟩:=r2
 generalize e:c.Y.f a=o at g
 induction o using O.casesOn with
 |list vs=>
  have h:=bl g
  have M:=ao h.1
  have u:=ao M.1
  exact set_list R hi e (ae u.1) (ae u.2) (ae M.2) r3 (by have q:=q 0;rw[<-h.2]at q;exact q)
 |dict bC ep=>
  have h:=bl g
  exact set_dict R hi e (ae h.1) r3 (by rw[<-h.2]at q;exact q)
 |_=>exact nn g
theorem JP(R:Rel J c s){a:Nat}{bC:List (Int×V)}{ep:Nat}{k:Int}{t:Tok}{v:V}{Q:Unit->Shared->Prop}(hi:a<c.Y.n)(e:c.Y.f a= .dict bC ep)(U:short bC=true)(n:bC.lookup k=some v)(q:∀s' ep,Step J c s (c.set a (.dict (bC.filter λ N=> !decide (N.1=k)) ep)) s' cZ->Q () s'):wpAny J.ax A (delItem (.ref (c.ρ a)) (.int k t)) Q E s:=by
 have r:=R.obj a hi
 rw[e]at r
 obtain⟨u,M,i,h⟩:=r
 have U:bC.length<=100000:=ae U
 obtain⟨o,es,b,I,D⟩:=id i
 refine wpAny_delItem_slot (T:="dict") ⟨_,b,I.1⟩ (by decide) F.slot_dict_delitem (call_meetsIn F.slot_dict_delitem ⟨_,b,I.1⟩ F.entry_dict_delitem (F.args_dict_delitem_2 _ _) (meets_dict_delitem_pairs (intKind J.prog J.w) (c.ρ a) isInt_self) ⟨M,i.dictOf,by rw[<-h.vals.1,aQ];exact aa U (by decide),?_,λ h' hd L=> ?_⟩)
 ·obtain⟨x,I,D⟩:=(cT.lookup h).1 v n
  rw[I];rfl
 ·obtain⟨l,G⟩:=hd.dictAt
  exact q _ l (R.Ni hi (by rw[e];nofun) u (.dict (bC.filter λ N=> !decide (N.1=k)) l) (s.toks+1) L λ g=>⟨rfl,_,G,(h.carry g).del⟩)
theorem pT(R:Rel J c s){op:Operator}{a b:V}{x y:Value}{r:V×Mem}(r1:aD c s.heap a x)(r2:aD c s.heap b y)(h:wi c.Y op a b=some r)(q:Q r.1 r.2):bL J A E c s (inplaceOp op x y) Q:=by
 induction op using Operator.casesOn with
 |Add=>
  induction a using V.casesOn with
  |int i=>
   obtain⟨j,rfl,h⟩:=pG h
   obtain rfl:=aM h
   obtain⟨t,rfl⟩:=r1;obtain⟨u,rfl⟩:=r2
   exact iadd_int ⟨c,.int _,Step.toks R _,⟨_,rfl⟩,q⟩
  |str p=>
   obtain⟨L,rfl,h⟩:=Ft h
   have h:=bl h
   have U:=ae h.1
   rw[<-h.2]at q
   obtain⟨t,rfl⟩:=r1;obtain⟨u,rfl⟩:=r2
   exact SBL.iadd (λ n tk D=>⟨c,.str (p++L),Step.toks R _,⟨n,by rw[gS]⟩,q⟩) (by rw[aU,aU,aQ];omega)
  |_=>exact nn h
 |Sub=>
  obtain⟨i,rfl,h⟩:=pG h
  obtain⟨j,rfl,h⟩:=pG h
  obtain rfl:=aM h
  obtain⟨t,rfl⟩:=r1;obtain⟨u,rfl⟩:=r2
  exact isub_int ⟨c,.int _,Step.toks R _,⟨_,rfl⟩,q⟩
 |_=>exact nn h
noncomputable def PX(c:Vw)(h:Heap):Fl->Flow->Prop
 | .next,f=>f= .next
 | .brk,f=>f= .brk
 | .cont,f=>f= .cont
 | .ret v,f=>∃x,f= .ret x/\aD c h v x
 | .exc _,_=>False
inductive bc(J:Cx)(pg:Pg)(d:Nat)(k:CC)(A:Around)(env:Env)(c:Vw)(s:Shared)(Q:Fl->ar->Mem->Prop)(f:Flow)(s':Shared):Prop
 |mk (c':Vw) (bj:ar) (fl:Fl) (S:Step J c s c' s' (Own env)) (T:At J pg d k bj c'.Y A c' s' env) (r:PX c' s'.heap fl f) (q:Q fl bj c'.Y):bc J pg d k A env c s Q f s'
inductive mA(J:Cx)(pg:Pg)(d:Nat)(k:CC)(A:Around)(env:Env)(c:Vw)(s:Shared)(Q:ar->Mem->Prop)(s':Shared):Prop
 |mk (c':Vw) (bj:ar) (S:Step J c s c' s' (Own env)) (T:At J pg d k bj c'.Y A c' s' env) (q:Q bj c'.Y):mA J pg d k A env c s Q s'
theorem bc.after{c c₁:Vw}{s p:Shared}{Q:Fl->ar->Mem->Prop}{f:Flow}{s':Shared}(S:Step J c s c₁ p (Own env))(h:bc J pg d k A env c₁ p Q f s'):bc J pg d k A env c s Q f s':=by
 obtain⟨G,i,x,l,T,r,q⟩:=h
 exact⟨G,i,x,S.trans l,T,r,q⟩
theorem bc.mono{Q p:Fl->ar->Mem->Prop}{f:Flow}{s':Shared}(h:bc J pg d k A env c s Q f s')(b:∀x B Y,Q x B Y->p x B Y):bc J pg d k A env c s p f s':=by
 obtain⟨G,i,x,l,T,r,q⟩:=h
 exact⟨G,i,x,l,T,r,b _ _ _ q⟩
noncomputable def Top(A:Around)(env:Env):Prop:=∃l,A.frames=some (env::l)
inductive Cq(c:Vw)(A:Around)(g:Heap)(C:Nat)(e:Addr)(h:Heap):Prop
 |made (args:aL) (m:Heap.MadeExcOf g h e (.ref C) args) (sz:g.objs.size<=h.objs.size):Cq c A g C e h
 |To (f:SF c A g C e h):Cq c A g C e h
inductive j3(J:Cx)(pg:Pg)(d:Nat)(k:CC)(A:Around)(env:Env)(c:Vw)(s:Shared)(X:Nat->ar->Mem->Prop)(e:Value)(s':Shared):Prop
 |mk (x:Addr) (C:Nat) (c':Vw) (bj:ar) (g:Heap) (he:e= .ref x) (S:Step J c s c' {s' with heap:=g} (Own env)) (T:At J pg d k bj c'.Y A c' {s' with heap:=g} env) (f:Cq c' A g C x s'.heap) (q:X C bj c'.Y):j3 J pg d k A env c s X e s'
theorem j3.after{c c₁:Vw}{s p:Shared}{X:Nat->ar->Mem->Prop}{e:Value}{s':Shared}(S:Step J c s c₁ p (Own env))(h:j3 J pg d k A env c₁ p X e s'):j3 J pg d k A env c s X e s':=by
 obtain⟨x,C,G,Q,g,he,l,T,f,q⟩:=h
 exact⟨x,C,G,Q,g,he,S.trans l,T,f,q⟩
theorem j3.none{X:Nat->ar->Mem->Prop}{e:Value}{s':Shared}(h:j3 J pg d k A env c s X e s')(hX:∀C B Y,¬X C B Y){P:Prop}:P:=by
 obtain⟨x,C,G,Q,g,he,l,T,f,q⟩:=h
 exact absurd q (hX _ _ _)
noncomputable def cu(J:Cx)(pg:Pg)(d:Nat)(m:MS):Prop:=∀(k:CC)(st:PySem.Stmt)(Q:Fl->ar->Mem->Prop)(B:ar)(Y:Mem)(A:Around)(E:dR)(c:Vw)(s:Shared)(env:Env),Jp k m st=true->wS J pg d m Q B Y->At J pg d k B Y A c s env->Top A env->(∀e s',j3 J pg d k A env c s (λ C=>Q (.exc C)) e s'->E e s')->wpAny J.ax A (exec st env) (bc J pg d k A env c s Q) E s
noncomputable def dh(J:Cx)(pg:Pg)(d:Nat)(ms:List MS):Prop:=∀(k:CC)(T:List PySem.Stmt)(Q:Fl->ar->Mem->Prop)(B:ar)(Y:Mem)(A:Around)(E:dR)(c:Vw)(s:Shared)(env:Env),fQ k ms T=true->wSs J pg d ms Q B Y->At J pg d k B Y A c s env->Top A env->(∀e s',j3 J pg d k A env c s (λ C=>Q (.exc C)) e s'->E e s')->wpAny J.ax A (execs T env) (bc J pg d k A env c s Q) E s
theorem At.now(T:At J pg d k B Y A c s env):At J pg d k B c.Y A c s env:=by exact T.sg▸T
theorem JQ:dh J pg d []:=by
 intro k p Q B Y A E c s env h w T H D
 induction p using List.casesOn with
 |nil=>exact nX ⟨c,B,.next,.refl T.rl,T.now,rfl,by exact T.sg▸w⟩
 |cons _ _=>exact nf h
theorem Gn{m:MS}{ms:List MS}(hm:cu J pg d m)(U:dh J pg d ms):dh J pg d (m::ms):=by
 intro k n Q B Y A E c s env h w T H j
 induction n using List.casesOn with
 |nil=>exact nf h
 |cons st n=>
  have h:=ao h
  refine kC (aV (hm k st _ B Y A E c s env h.1 w T H j) (λ f l L=> ?_) λ D D z=>z)
  obtain⟨c₁,b,M,S,p,r,q⟩:=L
  induction M using Fl.casesOn with
  |next=>
   exact(show f= .next from r)▸aV (U k n Q b c₁.Y A E c₁ l env h.2 q p H λ e s' t=>j e s' (t.after S)) (λ f G y=>y.after S) λ D D z=>z
  |brk=>exact(show f= .brk from r)▸⟨c₁,b,.brk,S,p,rfl,q⟩
  |cont=>exact(show f= .cont from r)▸⟨c₁,b,.cont,S,p,rfl,q⟩
  |ret v=>obtain⟨x,rfl,r⟩:=r;exact⟨c₁,b,.ret v,S,p,⟨x,rfl,r⟩,q⟩
  |exc C=>exact r.elim
noncomputable def Nj(J:Cx)(pg:Pg)(d:Nat)(t:Ac):Prop:=∀(k:CC)(e:aP)(v:V)(x:Value)(Q:ar->Mem->Prop)(B:ar)(Y:Mem)(A:Around)(E:dR)(c:Vw)(s:Shared)(env:Env),MP k t e=true->wG J pg d t v Q B Y->aD c s.heap v x->At J pg d k B Y A c s env->wpAny J.ax A (assign e env x) (λ D=>mA J pg d k A env c s Q) E s
theorem setAt{o:ME}(j:aI J pg d o){M:aP}{name:Str}{p:Pos}{v:V}{x:Value}{Q:ar->Mem->Prop}{P:eY}(h:bY 0 k o M=true)(w:wE J pg d o P B Y)(r:aD c s.heap v x)(T:At J pg d k B Y A c s env)(f:∀m n c₁ u,Rel J c₁ n->aD c₁ n.heap u m->aD c₁ n.heap v x->P u c₁.Y->I7 J A E c₁ n (setAttr m name x) (Q B)):wpAny J.ax A (assign (.Attribute M name p) env x) (λ D=>mA J pg d k A env c s Q) E s:=by
 refine(?_:wpAny _ _ (do let m<-holding [x] (eval M env);standAt p.atName;holding [x,m] (setAttr m name x);release [x,m] []) _ _ _)
 exact ag (bX ((j k M _ B Y A E c s env h w T).go λ m n c₁ u S b i=>ag (c7 (ag (bX ((f m n c₁ u S.rel b (r.carry S.carry) i).go λ D U c₂ a q=>wpAny_release ⟨c₂,B,(S.trans a).bO,T.step (S.trans a),q⟩))))))
theorem sG(ok:bA J)(I:cM J pg)(g:∀m,All J pg d m)(t:Ac):Nj J pg d t:=by
 intro k e v x Q B Y A E c s env h w r T
 induction t using Ac.casesOn with
 |var i=>
  refine bW (P:=λ e=>wpAny J.ax A (assign e env x) (λ D=>mA J pg d k A env c s Q) E s) h λ y p h=> ?_
  exact mM (dI T h r λ s' S L=>⟨c,B.set i v,S.mono λ b hb=>hb.own,L.now,by exact T.sg▸w⟩)
 |attr o j=>
  refine bG (P:=λ e=>wpAny J.ax A (assign e env x) (λ D=>mA J pg d k A env c s Q) E s) h λ N name p h=> ?_
  have h:=ao h
  have M:=ao h.1
  refine(bh M.2).symm▸?_
  refine setAt (g o).e h.2 w r T λ l n c₁ u R U r a=>sj (P:=λ u=>aD c₁ n.heap u l->_) a (λ i a U=>instP a λ C as e a=> ?_) U
  exact U.2▸r8 R ok U.1 e (I.inst C a.1) (ae M.1) a.2.2.1 r a.2.2.2
 |slot o j=>
  refine bG (P:=λ e=>wpAny J.ax A (assign e env x) (λ D=>mA J pg d k A env c s Q) E s) h λ N name p h=> ?_
  have h:=ao h
  have M:=ao h.1
  refine(bh M.2).symm▸?_
  refine setAt (g o).e h.2 w r T λ l n c₁ u R U r a=>sj (P:=λ u=>aD c₁ n.heap u l->_) a (λ i a U=>BZ a λ C as e a=> ?_) U
  refine U.2.symm▸?_
  exact set_node R ok U.1 e (a.1▸I.node) (ae M.1) r (a.1▸a.2.2)
 |sub o i=>
  refine d5 (P:=λ e=>wpAny J.ax A (assign e env x) (λ D=>mA J pg d k A env c s Q) E s) h λ N i' p h=> ?_
  have h:=ao h
  have M:=ao h.1
  rw[arm_assign_Subscript]
  exact ag (bX (((g o).e k N _ B Y A E c s env M.2 w T).go λ l n c₁ u S U a=>ag (bX (((g i).e k i' _ B c₁.Y A E c₁ n env h.2 a (T.step S)).go λ iv aT c₂ z G gw bB=>de bB λ f hf q=>ag (c7 (ag (bX ((oJ (Q:=λ σ'=>Q B σ') G.rel (U.carry G.carry) gw ((r.carry S.carry).carry G.carry) hf q).go λ D bx b7 H q=>wpAny_release ⟨b7,B,((S.trans G).trans H).bO,T.step ((S.trans G).trans H),q⟩))))))))
theorem RZ{I:Addr}{fp wr:List Addr}{n:Nat}{P:Nat->Value->Prop}{St:Nat->Heap->Prop}(W:Walks J.prog J.w A I fp wr n P St)(k i:Nat)(s:Shared)(Q:aL->Shared->Prop)(hle:i+k<=n)(st:St i s.heap)(g:∀xs h' tk,(∀b o,b∉wr->s.heap.get? b=some o->h'.get? b=some o)->xs.length=k->(∀j x,xs[j]? =some x->P (i+j) x)->St (i+k) h'->Q xs {s with heap:=h',toks:=tk}):wpAny J.ax A (draw (.ref I) k) Q E s:=by
 induction k generalizing i s Q with
 |zero=>exact aA (g [] s.heap s.toks (λ D D D e=>e) rfl (λ j x h=>nomatch h) st)
 |succ k y=>
  show wpAny _ _ (pyNext (.ref I)>>=_) Q E s
  refine ag (W.item i s _ E (ah (uJ (Nat.succ_pos k)) hle) st λ v C z M c G=>ag (bX (y (i+1) _ _ (by rw[Nat.succ_add];exact hle) c λ xs L N u H hp a=>aA (g (v::xs) L N (λ b o U e=>u b o U (G b o U e)) (aE (·+1) H) (λ j x=>Nat.casesOn j (λ h=>aM h▸M) λ j h=>(Nat.succ_add i j).subst (motive:=λ n=>P n x) (hp j x h)) ((Nat.succ_add i k).subst (motive:=λ n=>St n L) a)))))
theorem s8(r:A.handled=none)(R:Rel J c s){T:String}{a:Addr}{g:aL}(j:T="tuple")(x:SeqAt s.heap T a g){Q:aL->Shared->Prop}(q:∀s',Step J c s c s' cZ->Q g s'):wpAny J.ax A (unpackItems (.ref a) g.length none) Q E s:=by
 subst j
 rw[<-cA (as:=g)]
 exact sR r R x.dz q
theorem iC{t:Ac}{ts:List Ac}{x:aP}{xs:List aP}(h:qw k (t::ts) (x::xs)=true):noStar x=true/\MP k t x=true/\qw k ts xs=true:=⟨(ao (ao h).1).1,(ao (ao h).1).2,(ao h).2⟩
theorem mT{x:aP}{xs:List aP}(h:noStar x=true):assignEach (x::xs) env=(false,assign x env)::assignEach xs env:=by
 induction x using PySem.Expr.casesOn<;>first|rfl|exact nf h
theorem mA.after{c c₁:Vw}{s p s':Shared}{Q:ar->Mem->Prop}(S:Step J c s c₁ p (Own env))(h:mA J pg d k A env c₁ p Q s'):mA J pg d k A env c s Q s':=by
 obtain⟨G,i,l,T,q⟩:=h
 exact⟨G,i,S.trans l,T,q⟩
theorem DV(ok:bA J)(M:cM J pg)(y:∀m,All J pg d m){v:V}{x:Value}(ts:List Ac)(es:List aP)(Q:ar->Mem->Prop)(B:ar)(Y:Mem)(c:Vw)(s:Shared)(h:qw k ts es=true)(w:SI J pg d ts v Q B Y)(r:aD c s.heap v x)(T:At J pg d k B Y A c s env):wpAny J.ax A (assignAll x ((assignEach es env).map (·.2))) (λ D=>mA J pg d k A env c s Q) E s:=by
 induction ts generalizing es B Y c s with
 |nil=>
  exact(mw (α:=aP) (l:=es) (by induction es<;>first|rfl|exact nf h))▸aA ⟨c,B,.refl T.rl,T.now,by refine T.sg.symm▸?_;exact w⟩
 |cons t ts g=>
  induction es using List.casesOn with
  |nil=>exact nf h
  |cons e es=>
   have h:=iC h
   refine(mT h.1).symm▸?_
   have L:=sG ok M y t k e v x _ B Y A E c s env h.2.1 w r T
   induction es using List.casesOn with
   |nil=>
    induction ts using List.casesOn with
    |nil=>exact L
    |cons=>exact nf h.2.2
   |cons U es=>
    have go:=λ b C c₁ p=>g (U::es) b C c₁ p h.2.2
    induction ts using List.casesOn with
    |nil=>exact nf h.2.2
    |cons i ts=>
     rw[mT (iC h.2.2).1]at go⊢
     show wpAny _ _ (holding [x] (assign e env x)>>=λ D=>assignAll x (((false,assign U env)::assignEach es env).map (·.2))) _ _ _
     refine ag (bX (aV L (λ D p f=> ?_) λ D D z=>z))
     obtain⟨c₁,b,S,n,q⟩:=f
     exact aV (go b c₁.Y c₁ p q (r.carry S.carry) n) (λ D G j=>j.after S) λ D D z=>z
noncomputable def Gp(J:Cx)(env:Env)(n:Str)(f:Value->Sem Unit):Prop:=∀(A:Around)(E:dR)(x:Value)(Q:Unit->Shared->Prop)(s:Shared),wpAny J.ax A (storeName env n x) Q E s->wpAny J.ax A (f x) Q E s
noncomputable def Cr(J:Cx)(k:CC)(env:Env):aj->List (Value->Sem Unit)->Prop:=λ is=>match is with
 |[]=>λ fs=>fs=[]
 |i::is=>λ fs=>match fs with
  |[]=>False
  |f::fs=>(∃n,k.gR n i=true/\Gp J env n f)/\Cr J k env is fs
theorem Cr.len{is:aj}{fs:List (Value->Sem Unit)}(h:Cr J k env is fs):is.length=fs.length:=by
 induction is generalizing fs with
 |nil=>refine(show fs=[] from h).symm▸?_;rfl
 |cons i is y=>induction fs using List.casesOn with
  |nil=>exact h.elim
  |cons f fs=>exact aE (·+1) (y h.2)
theorem Cr.snoc{is:aj}{fs:List (Value->Sem Unit)}{i:Nat}{f:Value->Sem Unit}(h:Cr J k env is fs)(g:∃n,k.gR n i=true/\Gp J env n f):Cr J k env (is++[i]) (fs++[f]):=by
 induction is generalizing fs with
 |nil=>refine(show fs=[] from h).symm▸?_;exact⟨g,rfl⟩
 |cons i is y=>induction fs using List.casesOn with
  |nil=>exact h.elim
  |cons f fs=>exact⟨h.1,y h.2⟩
theorem Cr.rev{is:aj}{fs:List (Value->Sem Unit)}(h:Cr J k env is fs):Cr J k env is.reverse fs.reverse:=by
 induction is generalizing fs with
 |nil=>refine(show fs=[] from h).symm▸?_;rfl
 |cons i is y=>induction fs using List.casesOn with
  |nil=>exact h.elim
  |cons f fs=>refine mG.symm▸mG.symm▸?_;exact(y h.2).snoc h.1
theorem qE(is:aj)(fs:List (Value->Sem Unit))(vs:ar)(xs:aL)(B:ar)(Y:Mem)(c:Vw)(s:Shared)(Q:ar->Mem->Prop)(h:Cr J k env is fs)(N:is.length=vs.length)(r:ay c s.heap vs xs)(T:At J pg d k B Y A c s env)(q:Q (ir is vs B) Y):wpAny J.ax A (assignInOrder fs xs) (λ D=>mA J pg d k A env c s Q) E s:=by
 induction is generalizing fs vs xs B s with
 |nil=>
  refine(show fs=[] from h).symm▸?_
  exact aA ⟨c,B,.refl T.rl,T.now,by exact T.sg▸q⟩
 |cons i is y=>
  induction fs using List.casesOn with
  |nil=>exact h.elim
  |cons f fs=>
   obtain⟨⟨n,u,w⟩,h⟩:=h
   induction vs using List.casesOn with
   |nil=>exact Nat.noConfusion N
   |cons v vs=>induction xs using List.casesOn with
    |nil=>exact r.elim
    |cons x xs=>exact wpAny_assignInOrder_more (w _ _ _ _ _ (dI T u r.1 λ p S m=>aV (y fs vs xs (B.set i v) p h (mH N) (r.2.carry S.carry) m q) (λ D M L=>L.after (S.mono λ b U=>U.own)) λ D D z=>z))
theorem Gq{is:aj}{es:List aP}(h:oA k is es=true):Cr J k env is ((assignEach es env).map (·.2))/\(assignEach es env).findIdx? (·.1)=none:=by
 induction is generalizing es with
 |nil=>exact mw h▸⟨rfl,rfl⟩
 |cons i is y=>
  induction es using List.casesOn with
  |nil=>exact nf h
  |cons e es=>
   have h:=ao h
   refine bW (P:=λ e=>Cr J k env (i::is) ((assignEach (e::es) env).map (·.2))/\(assignEach (e::es) env).findIdx? (·.1)=none) h.1 λ x p u=> ?_
   have z:=y h.2
   exact⟨⟨⟨x,u,λ D D D D D h=>mM h⟩,z.1⟩,(List.findIdx?_cons ..).trans (by refine z.2.symm▸?_;rfl)⟩
theorem DW{is:aj}{es:List aP}(h:oA k is es=true):Cr J k env is ((es.flatMap oz).map λ n=>bindName env n):=by
 induction is generalizing es with
 |nil=>refine(mw h).symm▸?_;rfl
 |cons i is y=>
  induction es using List.casesOn with
  |nil=>exact nf h
  |cons e es=>
   have h:=ao h
   exact bW (P:=λ e=>Cr J k env (i::is) (((e::es).flatMap oz).map λ n=>bindName env n)) h.1 λ x p u=>⟨⟨x,u,λ D D D D D h=>wpAny_bindName h⟩,y h.2⟩
theorem yX{e v:aP}{l:Nat}(n:pO v=false):swapsWith v (some e) l env=pure false:=by
 induction v using PySem.Expr.casesOn<;>first|rfl|exact nf n.symm
theorem A3{e v:aP}{l:Nat}(n:pO v=true)(w:cK e (λ D D=>true)=false):swapsWith v (some e) l env=pure false:=by
 induction v using PySem.Expr.casesOn<;>first|exact nf n|(induction e using PySem.Expr.casesOn<;>first|exact nf w.symm|rfl)
theorem A4{x:Str}{p:Pos}{v:aP}{l:Nat}(n:pO v=true):∃b,swapsWith v (some (.Name x p)) l env=pure b:=by
 induction v using PySem.Expr.casesOn<;>first|exact nf n|exact⟨_,rfl⟩
theorem yY{ts:List Ac}{es:List aP}(h:qw k ts es=true){v:aP}:swappedStores es v env=pure none:=by
 induction es using List.casesOn with
 |nil=>rfl
 |cons e r=>induction ts using List.casesOn with
  |nil=>exact nf h
  |cons t ts=>
   have h:=(iC h).2.1
   induction t using Ac.casesOn with
   |var i=>exact bW (P:=λ e=>swappedStores (e::r) v env=pure none) h λ D D D=>rfl
   |sub o i=>exact d5 (P:=λ e=>swappedStores (e::r) v env=pure none) h λ D D D D=>rfl
   |_=>exact bG (P:=λ e=>swappedStores (e::r) v env=pure none) h λ D D D D=>rfl
theorem s9(ok:bA J)(h:cM J pg)(y:∀m,All J pg d m){ts:List Ac}{e:ME}{es:List aP}{v:aP}{p:Pos}{Q:Fl->ar->Mem->Prop}(M:qw k ts es=true)(H:bY 0 k e v=true)(w:wS J pg d (.assign ts e) Q B Y)(T:At J pg d k B Y A c s env)(L:swapsWithSole es v p.line env=pure false):wpAny J.ax A (exec (.Assign es v p) env) (bc J pg d k A env c s Q) E s:=wpAny_Assign_stores (((y e).e k v _ B Y A E c s env H w T).go λ x f c₁ u S r i=>aV (DV ok h y (E:=E) ts es _ B c₁.Y c₁ f M i r (T.step S)) (λ D U C=>by
  obtain⟨c₂,l,a,g,q⟩:=C
  exact⟨c₂,l,.next,S.bO.trans a,g,rfl,q⟩) λ D D z=>z) L (yY M)
theorem A5(T:At J pg d k B Y A c s env):env.locals<s.heap.objs.size/\(∀x a,env.cells.lookup x=some a->a<s.heap.objs.size)/\∀b,Own env b->b<s.heap.objs.size:=by
 have M:env.locals<s.heap.objs.size:=by obtain⟨o,es,ep,e,D⟩:=T.en.H.loc;exact cD e
 exact⟨M,λ x a h=>(T.en.seen x a h).2.2,λ b U=>U.elim (λ e=>e▸M) λ⟨x,_,N⟩=>(T.en.seen x b N).2.2⟩
theorem Gr(ok:bA J){e:ME}{v:aP}{use:Value->Sem Unit}{P:eY}{R:Shared->Prop}(T:At J pg d k B Y A c s env)(y:∀m,All J pg d m)(h:bY 0 k e v=true)(hm:Jn e=true)(w:wE J pg d e P B Y)(q:∀mt a C f G s',Got J c s a C f G s'->sV mt f P G.Y->compPost J.ax A E (some use) (λ D=>R) (.ref a) C (.ok .next) s'):wpAny J.ax A (evalThenUse v env use) (λ D=>R) E s:=Pp (P:=λ e=>bY 0 k e v=true->wE J pg d e P B Y->wpAny J.ax A (evalThenUse v env use) (λ D=>R) E s) hm (λ mt elt N it ts h w=>by
  refine sy (P:=λ v=>wpAny J.ax A (evalThenUse v env use) (λ D=>R) E s) h λ e U sc pos h=> ?_
  refine yA (P:=λ U=>wpAny J.ax A (evalThenUse (.ListComp e U sc pos) env use) (λ D=>R) E s) h λ g h=> ?_
  have p:=ao h
  have n:=ao p.1
  have r:=ao n.1
  have u:=ao r.1
  have M:=ao u.1
  refine PW (P:=λ g=>wpAny J.ax A (evalThenUse (.ListComp e [g] sc pos) env use) (λ D=>R) E s) M.1 ?_
  exact ag (aV (sW ok T (use:=some use) (y elt).e (y it).i (λ m D=>(y m).t) M.2 u.2 r.2 n.2 p.2 w (q mt)) (λ D D h=>aA h) λ D D z=>z)) h w
theorem A6{Q:Fl->ar->Mem->Prop}{x:Str}{u:Pos}{i:Nat}(T:At J pg d k B Y A c s env)(p:k.gR x i=true){mt:Bool}{f C:Addr}{n:ar}{H:Vw}{s':Shared}(G:Got J c s f C n H s')(q:sV mt n (λ v Y=>Q .next (B.set i v) Y) H.Y):compPost J.ax A E (some λ v=>assignAll v ((assignEach [.Name x u] env).map (·.2))) (λ D s'=>bc J pg d k A env c s Q .next s') (.ref f) C (.ok .next) s':=by
 obtain⟨l,v,S,r,q,j⟩:=Gh T.rl G.S G.hD G.yD G.ac q
 have w:C∈l.y:=j C G.yC (Ne.symm G.ne)
 refine(?_:wpAny _ _ (assign (.Name x u) env (.ref f)) _ _ _)
 refine mM (dI (T.step S) p r λ L N t=> ?_)
 have I:=A5 T
 obtain⟨m,hm⟩:=G.ns
 have no:¬Own env C:=λ h=>aC G.hC (I.2.2 C h)
 refine⟨m,hm.at' λ o e=>N.lu S.rel w (λ q=>no q.own) e,λ h' z=> ?_⟩
 have M:=N.rel
 have g:Step J l L l {L with heap:=h'} (·=C):=M.other (·=C) (λ b o e nb=>(z.2 b nb).trans e) (λ b U=>by exact U▸⟨(M.eB C w).1,(M.eB C w).2.2.1,(M.eB C w).2.2.2,w⟩) (bN z.1.symm) rfl rfl
 exact⟨l,B.set i v,.next,Step.freshen T.rl (W':=λ b=>Own env b\/b=C) ((S.bO.trans (N.mono λ b U=> .inl U.own)).trans (g.mono λ b U=> .inr U)) λ b U=>U.imp id λ e=>by refine e.symm▸?_;exact G.hC,t.now.vn g (λ e=>aC G.hC (e▸I.1)) (λ y a hl e=>aC G.hC (e▸I.2.1 y a hl)),rfl,q⟩
theorem Gs(ok:bA J)(g:cM J pg)(y:∀m,All J pg d m)(ts:List Ac)(e:ME):cu J pg d (.assign ts e):=by
 intro k st Q B Y A E c s env h w T H j
 refine oy (P:=λ st=>wpAny J.ax A (exec st env) (bc J pg d k A env c s Q) E s) h λ es v p h=> ?_
 have h:=ao h
 have M:=ao h.1
 have plain:=s9 (p:=p) ok g y M.1 M.2 w T (E:=E)
 cases n:pO v with
 |false=>
  refine plain ?_
  induction es using List.casesOn with
  |nil=>rfl
  |cons e es=>induction es using List.casesOn with
   |nil=>exact yX n
   |cons=>rfl
 |true=>
  have hm:Jn e=true:=(RI h.2).elim (λ h=>nf ((i9 h).symm.trans n)) id
  induction es using List.casesOn with
  |nil=>exact plain rfl
  |cons U es=>induction es using List.casesOn with
   |cons=>exact plain rfl
   |nil=>
    cases f:cK U (λ D D=>true)with
    |false=>exact plain (A3 n f)
    |true=>
     refine bW (P:=λ U=>qw k ts [U]=true->(swapsWithSole [U] v p.line env=pure false->wpAny J.ax A (exec (.Assign [U] v p) env) (bc J pg d k A env c s Q) E s)->wpAny J.ax A (exec (.Assign [U] v p) env) (bc J pg d k A env c s Q) E s) f (λ x I D N plain=> ?_) M.1 plain
     obtain⟨b,u⟩:=A4 (x:=x) (p:=I) (l:=p.line) (env:=env) n
     induction b using Bool.casesOn with
     |false=>exact plain u
     |true=>
      rw[exec_Assign_arm]
      refine ag (c7 ?_)
      refine(show swapsWithSole [.Name x I] v p.line env=pure true from u).symm▸?_
      refine ag (aA ?_)
      refine(aw rfl).symm▸?_
      induction ts using List.casesOn with
      |nil=>exact nf N
      |cons t ts=>induction ts using List.casesOn with
       |cons=>exact nf (iC N).2.2
       |nil=>
        have L:=(iC N).2.1
        induction t using Ac.casesOn with
        |var i=>exact ag (aV (Gr ok T y M.2 hm (P:=λ v Y=>Q .next (B.set i v) Y) w λ mt a C r o s' G q=>A6 T L G q) (λ D D h=>aA h) λ D D z=>z)
        |_=>exact nf L
theorem A7(is:aj)(vs:ar)(B:ar)(i:Nat)(v:V)(h:i∉is):ir is vs (B.set i v)=(ir is vs B).set i v:=by
 induction is generalizing vs B with
 |nil=>rfl
 |cons j is y=>induction vs using List.casesOn with
  |nil=>rfl
  |cons w vs=>exact(aE (ir is vs) (List.set_comm _ _ λ e=>h (by exact e▸.head _))).trans (y vs _ λ q=>h (.tail _ q))
theorem yZ(is:aj)(vs:ar)(B:ar)(i:Nat)(v:V)(h:is.length=vs.length):ir (is++[i]) (vs++[v]) B=(ir is vs B).set i v:=by
 induction is generalizing vs B with
 |nil=>induction vs using List.casesOn with
  |nil=>rfl
  |cons=>exact Nat.noConfusion h
 |cons j is y=>induction vs using List.casesOn with
  |nil=>exact Nat.noConfusion h
  |cons w vs=>exact y vs _ (mH h)
theorem A8(is:aj)(vs:ar)(B:ar)(m:is.Nodup)(h:is.length=vs.length):ir is.reverse vs.reverse B=ir is vs B:=by
 induction is generalizing vs B with
 |nil=>induction vs using List.casesOn with
  |nil=>rfl
  |cons=>exact Nat.noConfusion h
 |cons j is y=>induction vs using List.casesOn with
  |nil=>exact Nat.noConfusion h
  |cons w vs=>
   have m:=fh.mp m
   rw[mG,mG,yZ _ _ _ _ _ (by rw[qm,qm];exact mH h),y vs B m.2 (mH h)]
   exact(A7 is vs B j w m.1).symm
noncomputable def Sw(ts:List aP)(t:Sem (Option (List Str))):Prop:=t=pure none\/t=pure (some (ts.flatMap oz))
theorem Sw.ite{ts:List aP}{c:Prop}[Decidable c]{t:Sem (Option (List Str))}(h:¬c->Sw ts t):Sw ts (if c then pure none else t):=by
 by_cases q:c
 ·exact aw q▸.inl rfl
 ·exact av q▸h q
theorem DX{f:aP->Option Str}(A:∀e y,f e=some y->oz e=[y]){l:List aP}(h:(l.filterMap f).length=l.length):l.filterMap f=l.flatMap oz:=by
 induction l with
 |nil=>rfl
 |cons e l g=>
  cases he:f e with
  |none=>
   rw[List.filterMap_cons_none he]at h
   exact absurd h (az (Nat.lt_succ_of_le (List.length_filterMap_le ..)))
  |some y=>
   rw[List.filterMap_cons_some he]at h⊢
   rw[g (mH h),List.flatMap_cons,A e y he]
   rfl
theorem uk{ts:List aP}{n:Nat}{p:Pos}{v:aP}(c:B4 v=true):Sw ts (swappedStores [.Tuple ts n p] v env):=by
 induction v using PySem.Expr.casesOn with
 |Tuple vs m q=>
  have c:=i9 c
  unfold swappedStores
  refine Sw.ite λ D=>Sw.ite λ D=>Sw.ite λ h=>Sw.ite λ D=> ?_
  have c:vs.all (constantsAlone 8)=false:=c
  dsimp only
  rw[av λ q=>nf (c.symm.trans q)]
  have N:_=ts.length:=uM λ q=>h (by rw[bne_iff_ne.mpr q];rfl)
  exact .inr (aE (λ l=>pure (some l)) (DX (λ e y he=>by
   induction e using PySem.Expr.casesOn with
   |Name x d=>
    have he:=bl he
    exact aE (λ z=>[z]) he.2
   |_=>exact nn he) N))
 |_=>exact .inl rfl
inductive Gu(c:Vw)(h:Heap)(vs:ar):Value->Prop
 |mk (T:String) (a:Addr) (aK:aL) (hT:T="tuple") (sq:SeqAt h T a aK) (rs:ay c h vs aK):Gu c h vs (.ref a)
theorem JS(R:Rel J c s){v:V}{x:Value}{vs:ar}(r:aD c s.heap v x)(h:MC c.Y v=some vs):Gu c s.heap vs x:=by
 induction v using Mine.V.casesOn with
 |tuple ws=>obtain rfl:=aM h;obtain⟨a,g,rfl,e,D,m⟩:=r;exact⟨"tuple",a,g,rfl,e,m⟩
 |_=>exact nn h
theorem Gv(ok:bA J)(pk:cM J pg)(ha:∀m,All J pg d m)(is:aj)(e:ME):cu J pg d (.unpack is e):=by
 intro k st Q B Y A E c s env h w T H hE
 refine oy (P:=λ st=>wpAny J.ax A (exec st env) (bc J pg d k A env c s Q) E s) h λ es v p h=> ?_
 refine yA (P:=λ es=>wpAny J.ax A (exec (.Assign es v p) env) (bc J pg d k A env c s Q) E s) h λ t h=> ?_
 refine wo (P:=λ t=>wpAny J.ax A (exec (.Assign [t] v p) env) (bc J pg d k A env c s Q) E s) h λ ts n b h=> ?_
 have h:=ao h
 have j:=ao h.1
 have L:=ao j.1
 rw[exec_Assign_arm]
 refine ag (c7 ?_)
 rw[show swapsWithSole [.Tuple ts n b] v p.line env=pure false by refine(?_:swapsWith v (some (.Tuple ts n b)) p.line env=_);induction v using PySem.Expr.casesOn<;>rfl]
 refine ag (aA ?_)
 rw[av (by decide)]
 refine ag (((ha e).e k v _ B Y A E c s env L.2 w T).go λ x aq c₁ u S r i=>de i λ vs Ln i=> ?_)
 obtain⟨TT,a,g,l,sq,f⟩:=JS S.rel r Ln
 have hits:is.length=g.length:=i.1.trans f.length
 rcases uk (ts:=ts) (n:=n) (p:=b) (env:=env) h.2 with U|U
 ·rw[U]
  refine ag (aA ?_)
  show wpAny _ _ ((standAt b>>=λ D=>unpack (.ref a) (assignEach ts env))>>=λ D=>pure Flow.next) _ _ _
  have z:=Gq (J:=J) (env:=env) L.1
  refine ag (ag (c7 ?_))
  unfold unpack
  rw[z.2,<-aX (·.2),<-z.1.len,hits]
  refine ag (bX (s8 T.rm.1 S.rel l sq λ M o=>aV (qE is _ vs g B c₁.Y c₁ M (λ B Y=>Q .next B Y) z.1 i.1 (f.carry o.carry) ((T.step S).step o) i.2) (λ D bx G=>aA ?_) λ D D z=>z))
  obtain⟨C,N,y,I,q⟩:=G
  exact⟨C,N,.next,(S.bO.trans o.bO).trans y,I,rfl,q⟩
 ·rw[U]
  refine ag (aA ?_)
  have z:=DW (J:=J) (env:=env) L.1
  show wpAny _ _ (rule "assign.swapped-stores">>=λ D=>unpackItems (.ref a) (ts.flatMap oz).length none>>=λ items=>assignInOrder ((ts.flatMap oz).reverse.map λ n=>bindName env n) items.reverse>>=λ D=>pure Flow.next) _ _ _
  refine ag (wpAny_rule ?_)
  rw[<-aX (λ n=>bindName env n),<-z.len,hits,List.map_reverse]
  refine ag (s8 T.rm.1 S.rel l sq λ M o=>ag (aV (qE is.reverse _ vs.reverse g.reverse B c₁.Y c₁ M (λ B Y=>Q .next B Y) z.rev (by rw[qm,qm];exact i.1) (f.carry o.carry).reverse ((T.step S).step o) (by exact A8 is vs B (ae j.2) i.1▸i.2)) (λ D bx G=>aA ?_) λ D D z=>z))
  obtain⟨C,N,y,I,q⟩:=G
  exact⟨C,N,.next,(S.bO.trans o.bO).trans y,I,rfl,q⟩
theorem At.fn(T:At J pg d k B Y A c s env):interactive env=false:=by
 delta interactive;rw[T.en.kind];rfl
theorem P5(z:∀m,All J pg d m)(e:ME):cu J pg d (.ret e):=by
 intro k st Q B Y A E c s env h w T H n
 refine FA (P:=λ st=>wpAny J.ax A (exec st env) (bc J pg d k A env c s Q) E s) h λ v p h=> ?_
 obtain⟨v,rfl,h⟩:=vU h
 exact wpAny_Return_some (((z e).e k v _ B Y A E c s env h w T).go λ x f c₁ u S r q=>⟨c₁,B,.ret u,S.bO,T.step S,⟨x,rfl,r⟩,q⟩)
theorem P6:cu J pg d .brk:=λ k st Q B Y A E c s env h w T H D=>B3 (P:=λ st=>wpAny J.ax A (exec st env) (bc J pg d k A env c s Q) E s) h λ p D=>wpAny_Break ⟨c,B,.brk,.refl T.rl,T.now,rfl,by exact T.sg▸w⟩
theorem Nk:cu J pg d .cont:=λ k st Q B Y A E c s env h w T H D=>AG (P:=λ st=>wpAny J.ax A (exec st env) (bc J pg d k A env c s Q) E s) h λ p D=>wpAny_Continue ⟨c,B,.cont,.refl T.rl,T.now,rfl,by exact T.sg▸w⟩
theorem Nl(z:∀m,All J pg d m)(e:ME):cu J pg d (.expr e):=by
 intro k st Q B Y A E c s env h w T H n
 refine AE (P:=λ st=>wpAny J.ax A (exec st env) (bc J pg d k A env c s Q) E s) h λ v p h=> ?_
 have h:=ao h
 refine wpAny_Expr_any (((z e).e k v _ B Y A E c s env h.1 w T).go λ x f c₁ u S r q=>⟨c₁,B,.next,S.bO,T.step S,rfl,q⟩) T.fn ?_
 have h:=i9 h.2
 induction v using PySem.Expr.casesOn<;>first|rfl|exact nf h.symm
theorem Gx(z:∀m,All J pg d m)(t:ME):cu J pg d (.iZ t):=λ k st Q B Y A E c s env h w T H D=>FE (P:=λ st=>wpAny J.ax A (exec st env) (bc J pg d k A env c s Q) E s) h λ n m p h=>wpAny_Assert_holds (((z t).t k n (λ q Y=>q=true/\Q .next B Y) B Y A E c s env h w T).go λ b f c₁ S q=>⟨q.1,c₁,B,.next,S.bO,T.step S,rfl,q.2⟩)
theorem Ts(y:∀m,All J pg d m)(t:ME){a b:List MS}(r:dh J pg d a)(U:dh J pg d b):cu J pg d (.dP t a b):=by
 intro k st Q B Y A E c s env h w T H n
 refine Pn (P:=λ st=>wpAny J.ax A (exec st env) (bc J pg d k A env c s Q) E s) h λ l o g p h=> ?_
 have h:=ao h
 have M:=ao h.1
 refine wpAny_If (((y t).t k l (λ q Y=>match q with
   |true=>wSs J pg d a Q B Y
   |false=>wSs J pg d b Q B Y) B Y A E c s env M.1 w T).go λ q j c₁ S i=> ?_)
 induction q using Bool.casesOn with
 |true=>exact aV (r k o Q B c₁.Y A E c₁ j env M.2 i (T.step S) H λ e s' t=>n e s' (t.after S.bO)) (λ f G L=>L.after S.bO) λ D D z=>z
 |false=>exact aV (U k g Q B c₁.Y A E c₁ j env h.2 i (T.step S) H λ e s' t=>n e s' (t.after S.bO)) (λ f G L=>L.after S.bO) λ D D z=>z
theorem P7{P:Const->Prop}{c:Const}(h:Pq c=true)(g:P .none):P c:=by
 induction c using Const.casesOn with
 |none=>exact g
 |_=>exact nf h
theorem JT(ha:∀m,All J pg d m)(i:Nat)(e:ME){a b:List MS}(hA:dh J pg d a)(hB:dh J pg d b):cu J pg d (.u5 i e a b):=by
 intro k st Q B Y A E c s env h w T H I
 refine Pn (P:=λ st=>wpAny J.ax A (exec st env) (bc J pg d k A env c s Q) E s) h λ C o g p h=> ?_
 refine pI (P:=λ C=>wpAny J.ax A (exec (.If C o g p) env) (bc J pg d k A env c s Q) E s) h λ l ops G n h=> ?_
 refine yA (P:=λ ops=>wpAny J.ax A (exec (.If (.Compare l ops G n) o g p) env) (bc J pg d k A env c s Q) E s) h λ op h=> ?_
 refine yA (P:=λ G=>wpAny J.ax A (exec (.If (.Compare l [op] G n) o g p) env) (bc J pg d k A env c s Q) E s) h λ r1 h=> ?_
 refine yE (P:=λ l=>wpAny J.ax A (exec (.If (.Compare l [op] [r1] n) o g p) env) (bc J pg d k A env c s Q) E s) h λ gR v np h=> ?_
 refine bW (P:=λ gR=>wpAny J.ax A (exec (.If (.Compare (.NamedExpr gR v np) [op] [r1] n) o g p) env) (bc J pg d k A env c s Q) E s) h λ x xp h=> ?_
 refine iw (P:=λ r1=>wpAny J.ax A (exec (.If (.Compare (.NamedExpr (.Name x xp) v np) [op] [r1] n) o g p) env) (bc J pg d k A env c s Q) E s) h λ cc kd kp h=> ?_
 have h4:=ao h
 have h3:=ao h4.1
 have h2:=ao h3.1
 have h1:=ao h2.1
 have h0:=ao h1.1
 refine(ae h0.1).symm▸?_
 refine P7 (P:=λ cc=>wpAny J.ax A (exec (.If (.Compare (.NamedExpr (.Name x xp) v np) [.Is] [.Constant cc kd kp] n) o g p) env) (bc J pg d k A env c s Q) E s) h0.2 ?_
 refine wpAny_If (wpAny_isTrue_Compare1 (wpAny_NamedExpr (((ha e).e k v _ B Y A E c s env h2.2 w T).go λ y aq c₁ u S r M=>de M λ q hq M=>mM (dI (T.step S) h1.2 r λ U N gJ=>aA (a:=Value.none) ?_))) rfl)
 have z:=n8 N.rel (r.carry N.carry) hq
 refine wpAny_is_plain z.1 ?_
 refine z.2.symm▸?_
 refine wpAny_truthy_bool ?_
 have j:Step J c s c₁ U (Own env):=S.bO.trans (N.mono λ b hb=>hb.own)
 induction q using Bool.casesOn with
 |true=>exact aV (hA k o Q _ c₁.Y A E c₁ U env h3.2 M gJ H λ e s' t=>I e s' (t.after j)) (λ f U L=>L.after j) λ D D z=>z
 |false=>exact aV (hB k g Q _ c₁.Y A E c₁ U env h4.2 M gJ H λ e s' t=>I e s' (t.after j)) (λ f U L=>L.after j) λ D D z=>z
theorem P8(g:∀m,All J pg d m)(i:Nat)(op:Operator)(e:ME):cu J pg d (.aug i op e):=by
 intro k st Q B Y A E c s env h w T H j
 refine i0 (P:=λ st=>wpAny J.ax A (exec st env) (bc J pg d k A env c s Q) E s) h λ L G v p h=> ?_
 refine bW (P:=λ L=>wpAny J.ax A (exec (.AugAssign L G v p) env) (bc J pg d k A env c s Q) E s) h λ x t h=> ?_
 have h:=ao h
 have M:=ao h.1
 refine(ae M.2)▸?_
 obtain⟨l,w⟩:=jT (v:=B.getD i .aF) w
 exact wpAny_AugAssign_Name (yG T (CC.FU M.1).1 rfl l λ y r=>((g e).e k v _ B Y A E c s env h.2 w T).go λ z aq c₁ u S o U=>de U λ res N q=>(pT (Q:=λ v Y=>Q .next (B.set i v) Y) S.rel (r.carry S.carry) o N q).go λ z' aT c₂ v' a I q=>dI ((T.step S).step a) M.1 I λ bx f C=>⟨c₂,_,.next,(S.trans a).bO.trans (f.mono λ b n=>n.own),C,rfl,q⟩)
inductive Cs(J:Cx)(pg:Pg)(d:Nat)(A:Around)(E:dR)(name:Str)(op:Operator)(e:ME)(B:ar)(Q:Mem->Prop)(c:Vw)(s:Shared)(u:V)(ov:Value):Prop
 |mk (a:V) (K:V×Mem->Prop) (g:bL J A E c s (getAttr ov name true) (λ v Y=>v=a/\Y=c.Y)) (w:wE J pg d e (λ b Y=>opt (wi Y op a b) K) B c.Y) (f:∀c' s' z x,Rel J c' s'->aD c' s'.heap x.1 z->aD c' s'.heap u ov->c'.Y=x.2->K x->I7 J A E c' s' (setAttr ov name z) Q):Cs J pg d A E name op e B Q c s u ov
theorem Gy{o e:ME}(H:aI J pg d o)(he:aI J pg d e){M v:aP}{name:Str}{L p:Pos}{op:Operator}{P:eY}{Q:Fl->ar->Mem->Prop}(C:bY 0 k o M=true)(h2:bY 0 k e v=true)(w:wE J pg d o P B Y)(T:At J pg d k B Y A c s env)(f:∀n m c₁ u,Rel J c₁ m->aD c₁ m.heap u n->P u c₁.Y->Cs J pg d A E name op e B (Q .next B) c₁ m u n):wpAny J.ax A (exec (.AugAssign (.Attribute M name L) op v p) env) (bc J pg d k A env c s Q) E s:=by
 refine wpAny_AugAssign_AttributeAny ((H k M _ B Y A E c s env C w T).go λ n m c₁ u S r i=> ?_)
 obtain⟨a,K,g,i,f⟩:=f n m c₁ u S.rel r i
 refine g.go λ y aT c₂ a' x G t=> ?_
 rw[t.1]at G
 rw[<-t.2]at i
 refine(he k v _ B c₂.Y A E c₂ aT env h2 i ((T.step S).step x)).go λ z bx b7 b j oh h=>de h λ res hr h=>(pT (Q:=λ v Y=>v=res.1/\Y=res.2) j.rel (G.carry j.carry) oh hr ⟨rfl,rfl⟩).go λ z' jU sC v' U l N=> ?_
 rw[N.1]at l
 exact(f sC jU z' res U.rel l (((r.carry x.carry).carry j.carry).carry U.carry) N.2 h).go λ D kT je eC q=>have I:=((S.trans x).trans j).trans (U.trans eC);⟨je,B,.next,I.bO,T.step I,rfl,q⟩
theorem DY(ok:bA J)(U:cM J pg)(y:∀m,All J pg d m)(o:ME)(j:Nat)(op:Operator)(e:ME):cu J pg d (.iX o j op e):=by
 intro k st Q B Y A E c s env h w T H hE
 refine i0 (P:=λ st=>wpAny J.ax A (exec st env) (bc J pg d k A env c s Q) E s) h λ L I v p h=> ?_
 refine bG (P:=λ L=>wpAny J.ax A (exec (.AugAssign L I v p) env) (bc J pg d k A env c s Q) E s) h λ o' name ap h=> ?_
 have g:=ao h
 have l:=ao g.1
 have f:=ao l.1
 have M:=ao f.1
 refine(ae l.2)▸(bh M.2).symm▸?_
 refine Gy (y o).e (y e).e f.2 g.2 w T λ n t c₁ u R r q=>sj (P:=λ u=>aD c₁ t.heap u n->Cs J pg d A E (attrName j) op e B (Q .next B) c₁ t u n) q (λ i q r=>instP q λ C as e1 q=>de q.2 λ a hl bB=> ?_) r
 refine⟨a,_,by refine r.2.symm▸?_;exact r6 R ok r.1 e1 (U.inst C q.1) (ae M.1) hl ⟨rfl,rfl⟩,(jT bB).2,λ c' s' z x R r' G N b=>instP b λ C' K8 e3 b=> ?_⟩
 refine G.2.symm▸?_
 exact r8 R ok G.1 (N▸e3) (U.inst C' b.1) (ae M.1) b.2.2.1 r' (N▸b.2.2.2)
theorem DZ(ok:bA J)(U:cM J pg)(y:∀m,All J pg d m)(o:ME)(j:Nat)(op:Operator)(e:ME):cu J pg d (.iY o j op e):=by
 intro k st Q B Y A E c s env h w T H hE
 refine i0 (P:=λ st=>wpAny J.ax A (exec st env) (bc J pg d k A env c s Q) E s) h λ L qv v p h=> ?_
 refine bG (P:=λ L=>wpAny J.ax A (exec (.AugAssign L qv v p) env) (bc J pg d k A env c s Q) E s) h λ o' name ap h=> ?_
 have g:=ao h
 have l:=ao g.1
 have f:=ao l.1
 have M:=ao f.1
 refine(ae l.2)▸(bh M.2).symm▸?_
 refine Gy (y o).e (y e).e f.2 g.2 w T λ n t c₁ u R r q=>sj (P:=λ u=>aD c₁ t.heap u n->Cs J pg d A E (d3 j) op e B (Q .next B) c₁ t u n) q (λ i q r=>BZ q λ C as e1 q=>de q.2 λ a hl G=> ?_) r
 refine⟨a,_,by refine r.2.symm▸?_;exact get_node R ok r.1 e1 (q.1▸U.node) (ae M.1) hl (jT G).1 ⟨rfl,rfl⟩,(jT G).2,λ c' s' z x R r' N I b=>BZ b λ C' K8 e3 b=> ?_⟩
 refine N.2.symm▸?_
 exact set_node R ok N.1 (I▸e3) (b.1▸U.node) (ae M.1) r' (I▸b.2.2)
theorem Qa{a:List MS}(m:dh J pg d a):cu J pg d (.DB a):=by
 intro k st Q B Y A E c s env h w T H n
 refine FG (P:=λ st=>wpAny J.ax A (exec st env) (bc J pg d k A env c s Q) E s) h λ b C U j p h=> ?_
 have h:=ao h
 have M:=ao h.1
 have u:=ao M.1
 refine(mw M.2).symm▸(mw u.2).symm▸?_
 induction C using List.casesOn with
 |nil=>exact nf u.1
 |cons q C=>
  refine wpAny_Try_except (wpAny_noRaise (aV (m k b (K7 Q) B Y A JJ c s env h.2 w T H λ e s' t=>t.none λ D D D h=>h) (λ f r L=> ?_) λ D D z=>z))
  have L:=L.mono λ D D D=>Pm
  induction f using Flow.casesOn with
  |next=>exact nX L
  |_=>exact L
noncomputable def Ct(I:Prop)(R:Flow->Prop)(f:Flow):Prop:=match f with
 | .next| .cont=>I
 | .brk=>R .next
 | .ret v=>R (.ret v)
theorem ta{a:ar->Mem->Prop}{Q:Fl->ar->Mem->Prop}{f:Flow}{s':Shared}(h:bc J pg d k A env c s (u7 a Q) f s'){I:Prop}{R:Flow->Prop}(M:mA J pg d k A env c s a s'->I)(u:∀f,bc J pg d k A env c s Q f s'->R f):Ct I R f:=by
 obtain⟨c₂,l,e,o,H,r,q⟩:=h
 induction e using Fl.casesOn with
 |next=>exact(show f= .next from r)▸M ⟨c₂,l,o,H,q⟩
 |cont=>exact(show f= .cont from r)▸M ⟨c₂,l,o,H,q⟩
 |brk=>exact(show f= .brk from r)▸u _ ⟨c₂,l,.next,o,H,rfl,q⟩
 |ret v=>obtain⟨x,rfl,r⟩:=r;exact u _ ⟨c₂,l,.ret v,o,H,⟨x,rfl,r⟩,q⟩
 |exc C=>exact r.elim
theorem JU(y:∀m,All J pg d m)(t:ME){a b:List MS}(N:dh J pg d a)(I:dh J pg d b):cu J pg d (.ft t a b):=by
 intro k st Q B Y A E c s env h w T H hE
 refine Jj (P:=λ st=>wpAny J.ax A (exec st env) (bc J pg d k A env c s Q) E s) h λ u C b' p h=> ?_
 have h:=ao h
 have M:=ao h.1
 obtain⟨g,n,o,hJ⟩:=w
 rw[<-T.sg]at o
 refine wpAny_While (codeAny_whileLoop (λ n=>mA J pg d k A env c s (g n)) (λ n s' hI=> ?_) n ⟨c,B,.refl T.rl,T.now,o⟩)
 obtain⟨G,i,S,v,j⟩:=hI
 refine((y t).t k u (λ q Y=>match q with
  |true=>wSs J pg d a (u7 (λ B Y=>∃m,m<n/\g m B Y) Q) i Y
  |false=>wSs J pg d b (K7 Q) i Y) i G.Y A _ G s' env M.1 (hJ n i G.Y j) v).go λ q x c₁ l U=> ?_
 have r:=S.trans l.bO
 induction q using Bool.casesOn with
 |true=>exact aV (N k C _ i c₁.Y A _ c₁ x env M.2 U (v.step l) H λ e s' t=>t.none λ D D D h=>h) (λ f aT L=>ta L (λ⟨c₂,mU,aN,gJ,m,hm,q⟩=>⟨m,hm,c₂,mU,r.trans aN,gJ,q⟩) λ f h=>h.after r) λ D D z=>z
 |false=>exact aV (I k b' (K7 Q) i c₁.Y A _ c₁ x env h.2 U (v.step l) H λ e s' t=>t.none λ D D D h=>h) (λ f aT L=>(L.mono λ D D D=>Pm).after r) λ D D z=>z
theorem At.low(T:At J pg d k B Y A c s env){b:Addr}(h:b=env.locals\/∃x,env.cells.lookup x=some b):b<s.heap.objs.size:=h.elim (λ e=>e▸(A5 T).1) λ⟨x,h⟩=>(A5 T).2.1 x b h
inductive Lw(J:Cx)(pg:Pg)(d:Nat)(k:CC)(A:Around)(env:Env)(c:Vw)(s:Shared)(W:Addr->Prop)(St:Nat->Vw->Heap->Prop)(len:Nat)(P:Nat->ar->Mem->Prop)(n:Nat)(s':Shared):Prop
 |mk (i:Nat) (c':Vw) (bj:ar) (hn:n=len-i) (hi:i<=len) (S:Step J c s c' s' W) (T:At J pg d k bj c'.Y A c' s' env) (st:St i c' s'.heap) (w:P i bj c'.Y):Lw J pg d k A env c s W St len P n s'
theorem Qb(ha:∀m,All J pg d m)(L:aj)(it:ME){a:List MS}(hA:dh J pg d a):cu J pg d (.eR L it a):=by
 intro k st Q B Y A E c s env h w T H hE
 refine K9 (P:=λ st=>wpAny J.ax A (exec st env) (bc J pg d k A env c s Q) E s) h λ t i' a' xY p h=> ?_
 have h3:=ao h
 have C:=ao h3.1
 have h1:=ao C.1
 refine(mw h1.1).symm▸?_
 refine wpAny_For (aV ((ha it).i k i' (λ x Y=>forLoop (λ v K B Y=>opt (lE x.1 L v B) λ o=>wSs J pg d a K o Y) x.2.2 x.2.1 Q B Y) B Y A E c s env C.2 w T) (λ x aq d9=>aV d9 (λ Ys aT b8=> ?_) λ D D z=>z) λ D D z=>z) (pR C.2)
 obtain⟨I,ys,St,Md,x,c₂,aT,S,mz,j,st,bB⟩:=b8
 have hh:=T.rm.1
 have j:=j A hh
 have fresh:∀b∈ys,∀q:b=env.locals\/∃x,env.cells.lookup x=some b,False:=λ b U q=>aC (mz b U).2 (T.low q)
 have fin:∀{G s'},Step J c₂ aT G s' (λ b=>b∈ys\/Own env b)->Step J c s G s' (Own env):=λ l=>Step.freshen T.rl (W':=λ b=>b∈ys\/Own env b) (S.bO.trans l) λ b U=>U.elim (λ U=> .inr (mz b U).2) .inl
 refine codeAny_forLoop_any (Lw J pg d k A env c₂ aT (λ b=>b∈ys\/Own env b) St x.2.1.length λ i B Y=>forLoop (λ v K B Y=>opt (lE x.1 L v B) λ o=>wSs J pg d a K o Y) x.2.2 (x.2.1.drop i) Q B Y) (λ n s' hI=> ?_) x.2.1.length ⟨0,c₂,B,rfl,dF _,.refl S.rel,T.step S,st,bB⟩
 obtain⟨i,G,o,hn,hi,l,N,OE,g⟩:=hI
 have u:∀b∈ys,b∈G.y:=λ b U=>l.y b (mz b U).1
 rcases Nat.lt_or_eq_of_le hi with M|rfl
 ·rw[List.drop_eq_getElem_cons M]at g
  refine de g.2 λ fn Lr aG=>j.item i G s' _ _ M N.rl u OE g.1 λ y bx r md=>j.go i x.2.1[i] t y G bx _ _ (jr M) (Lp h1.2 Lr) r.rel u md λ jU cV iv Cm=> ?_
  have wZ:=r.trans cV
  refine vp hh (N.vn wZ (λ q=>fresh _ q (.inl rfl)) (λ x b hl q=>fresh b q (.inr ⟨x,hl⟩))) h1.2 iv Lr λ kT eC pS=>aV (hA k a' _ fn G.Y A _ G kT env h3.2 aG pS H λ e s' t=>t.none λ D D D h=>h) (λ f Gz GA=> ?_) λ D D z=>z
  have SS:=l.trans ((wZ.mono λ b U=> .inl U).trans (eC.mono λ b ⟨x,i,_,hd⟩=> .inr hd.own))
  exact ta GA (λ⟨GB,Qc,pU,tc,q⟩=>⟨_,by refine hn.symm▸?_;exact Nat.sub_lt_sub_left M (bF _),i+1,GB,Qc,rfl,M,SS.trans (pU.mono λ b U=> .inr U),tc,j.keep (i+1) G kT GB Gz _ eC.rel u (j.keep (i+1) G jU G kT _ wZ.rel u Cm eC λ b U q=>fresh b U q.own) pU λ b U q=>fresh b U (q.imp id λ⟨x,_,h⟩=>⟨x,h⟩),q⟩) λ f h=>h.after (fin SS)
 ·rw[List.drop_length]at g
  exact j.done G s' _ _ N.rl u OE g.1 λ bx r=>nX ⟨G,o,.next,fin (l.trans (r.mono λ b U=> .inl U)),N.vn r (λ q=>fresh _ q (.inl rfl)) (λ x b hl q=>fresh b q (.inr ⟨x,hl⟩)),rfl,g.2⟩
section
open Sem (wp)
theorem fA:Slot "callable_iterator" "__next__" "callable_iterator.__next__":= .of (owner:="callable_iterator") (n:="__next__") (by rw[mI,mJ];kernel_rfl) (by decide+kernel) (by decide+kernel) (by decide+kernel) (by first|exact .inl (by decide+kernel)|exact .inr (by decide+kernel)) (by rw[eX];kernel_rfl)
theorem oK:Slot "callable_iterator" "__iter__" "callable_iterator.__iter__":= .of (owner:="callable_iterator") (n:="__iter__") (by rw[mI,mJ];kernel_rfl) (by decide+kernel) (by decide+kernel) (by decide+kernel) (by first|exact .inl (by decide+kernel)|exact .inr (by decide+kernel)) (by rw[eX];kernel_rfl)
theorem mW:entryFor table "callable_iterator.__next__"=some Builtin.«callable_iterator.__next__»:=entryFor_of_tree (by kernel_rfl)
theorem um:entryFor table "callable_iterator.__iter__"=some Builtin.«dict_keyiterator.__iter__»:=entryFor_alias (id':="dict_keyiterator.__iter__") (by kernel_rfl) (by first|rfl|decide+kernel|(unfold String.splitOn;simp+decide [String.splitOnAux])) (by decide+kernel) (by kernel_rfl)
theorem oL(a:Value):argsOk "callable_iterator.__next__" ⟨[a],[]⟩:=by first|rfl|kernel_rfl|(unfold argsOk;kernel_rfl)
theorem w0(a:Value):argsOk "callable_iterator.__iter__" ⟨[a],[]⟩:=by first|rfl|kernel_rfl|(unfold argsOk;kernel_rfl)
section
variable{prog:Program}{w:World}
theorem y0{a:Addr}{o:Obj}{Q:dR}(z:s.heap.get? a=some o)(C:o.cls= .type "callable_iterator")(h:Q (.ref a) s):wpAny (model prog w) A (pyIter (.ref a)) Q E s:=by
 have j:s.TypeIs (.ref a) "callable_iterator":=⟨o,z,C⟩
 refine wpAny_pyIter_slot j oK (mL oK j um ?_ (w0 _))
 refine(?_:wpAny _ _ (ret (.ref a)) _ _ s)
 exact aA ⟨_,rfl,"callable_iterator",_,j,fA.lookup,h⟩
theorem y3{α:Type}{A':Around}{Q:Option Value->Shared->Prop}(r:A'.handled=none)(h:∀h',(∀b o,s.heap.get? b=some o->h'.get? b=some o)->s.heap.objs.size<=h'.objs.size->Q none {s with heap:=h'}){P:α->Shared->Prop}:wpAny (model prog w) A' (Builtin.SmallTypes.stopIteration:Sem α) P (λ e s'=>wpAny (model prog w) A (do if<-isInstance e (.type "StopIteration")then pure none else throw e:Sem (Option Value)) Q E s') s:=by
 refine ag ?_
 simp only[newExc,newTuple]
 refine ag (nV ?_ (by size_fits))
 refine ag (m:=firstArgMember _ _) (gv (a:=Value.none) (by first|rfl|(simp only[firstArgMember];rfl)) ?_)
 refine nV ?_ (by size_fits)
 delta raiseNew
 refine ag (wpAny_handled ?_)
 refine r.symm▸?_
 refine ag (aA (wpAny_throw ?_))
 refine ag (wpAny_isInstance (T:="StopIteration") (b:=true) ⟨_,bM _ rfl,rfl⟩ isSubtype_stop ?_)
 exact aA (h _ (λ b o e=>bt _ (bt _ e)) (by
  refine(?_:s.heap.objs.size<=(Array.push (Array.push s.heap.objs _) _).size)
  rw[Array.size_push,Array.size_push];omega))
theorem w2{a:Addr}{Q:Option Value->Shared->Prop}(r:A.handled=none)(z:s.heap.get? a=some {cls:= .type "callable_iterator",data:= .fields #[.none,.none,.bool true]})(h:∀h',(∀b o,s.heap.get? b=some o->h'.get? b=some o)->s.heap.objs.size<=h'.objs.size->Q none {s with heap:=h'}):wpAny (model prog w) A (pyNext (.ref a)) Q E s:=by
 have j:s.TypeIs (.ref a) "callable_iterator":=⟨_,z,rfl⟩
 refine ag (wpAny_attempt (rR (name:=Str.ofString "__next__") j fA (mL fA j mW ?_ (oL _))))
 show wpAny _ _ (field (.ref a) 2>>=_) _ _ s
 refine ag (dW z rfl (x:= .bool true) rfl ?_)
 refine(?_:wpAny _ _ (if(Value.bool true==Value.bool true)=true then _ else _) _ _ s)
 rw[aw (by rfl)]
 refine ag (wpAny_rule ?_)
 exact ag (y3 (α:=PUnit) (A':=A.in1) r h)
theorem qF{A':Around}{q fn:Addr}{self:Value}{of:Obj}{v:FuncData}{Q:Bool->Shared->Prop}(b:s.heap.get? q=some (methodObj (.ref fn) self))(A:s.heap.get? fn=some of)(hd:of.data= .func v)(h:Q true s):wpAny (model prog w) A' (borrowsExactly (.ref q)) Q E s:=by
 refine ag (wpAny_load b ?_)
 show wpAny _ _ (do match(<-load fn).data with| .func _=>pure true|_=>pure false) _ _ _
 refine ag (wpAny_load A ?_)
 exact hd▸aA h
theorem nr{M:Model}{f:Value}{pos:aL}{Q:dR}(C:codeAny M A (.call f ⟨pos,[]⟩) (λ r s'=>match r with| .ok (.ret v)=>Q v s'| .ok _=>False| .error e=>E e s') s):wpAny M A (callBorrowed f pos) Q E s:=λ h p z=>by
 obtain⟨r,s',c,b⟩:=C _ p rfl (z.enter (.call f ⟨pos,[]⟩) none p (by intro x;exact nn x))
 refine⟨r,s',c,?_⟩
 match r,b with
 | .ok (.ret v),b=>exact b
 | .error e,b=>exact b
 | .ok .next,b=>exact b.elim
 | .ok .brk,b=>exact b.elim
 | .ok .cont,b=>exact b.elim
inductive GC(a:Addr)(Q:Option Value->Shared->Prop)(aq:Shared):Result->Prop
 |mk (q':Addr) (t':Tok) (Tt:Addr) (Cu:Value) (Tu:Obj) (VA:FuncData) (x:Str) (tx:Tok) (Lm:aq.heap.get? a=some {cls:= .type "callable_iterator",data:= .fields #[.ref q',.str Str.empty t',.bool false]}) (VB:aq.heap.get? q'=some (methodObj (.ref Tt) Cu)) (OL:aq.heap.get? Tt=some Tu) (pj:Tu.data= .func VA) (h1:x≠Str.empty->Q (some (.str x tx)) aq) (h2:x=Str.empty->∀h',(∀b o,b≠a->aq.heap.get? b=some o->h'.get? b=some o)->h'.get? a=some {cls:= .type "callable_iterator",data:= .fields #[.none,.none,.bool true]}->aq.heap.objs.size<=h'.objs.size->Q none {aq with heap:=h'}):GC a Q aq (.ok (.ret (.str x tx)))
theorem y4{a q fn:Addr}{t:Tok}{self:Value}{of:Obj}{v:FuncData}{Q:Option Value->Shared->Prop}(l:A.handled=none)(z:s.heap.get? a=some {cls:= .type "callable_iterator",data:= .fields #[.ref q,.str Str.empty t,.bool false]})(M:s.heap.get? q=some (methodObj (.ref fn) self))(d:s.heap.get? fn=some of)(hd:of.data= .func v)(y:codeAny (model prog w) A.in1 (.call (.ref q) ⟨[],[]⟩) (λ r p=>GC a Q p r) s):wpAny (model prog w) A (pyNext (.ref a)) Q E s:=by
 have j:s.TypeIs (.ref a) "callable_iterator":=⟨_,z,rfl⟩
 refine ag (wpAny_attempt (rR (name:=Str.ofString "__next__") j fA (mL fA j mW ?_ (oL _))))
 show wpAny _ _ (field (.ref a) 2>>=_) _ _ s
 refine ag (dW z rfl (x:= .bool false) rfl ?_)
 refine(?_:wpAny _ _ (if(Value.bool false==Value.bool true)=true then _ else _) _ _ s)
 rw[av (by trivial)]
 refine ag (dW z rfl (x:= .ref q) rfl ?_)
 refine ag (wpAny_attempt ?_)
 refine ag (qF M d hd ?_)
 refine(aw rfl).symm▸?_
 refine nr (codeAny_mono y λ r p G=> ?_)
 obtain⟨u,i,Tt,Cu,Tu,VA,x,tx,k,g,N,H,h1,h2⟩:=G
 dsimp only
 refine ag (dW k rfl (x:= .bool false) rfl ?_)
 refine(?_:wpAny _ _ (if(Value.bool false==Value.bool true)=true then _ else _) _ _ _)
 rw[av (by trivial)]
 refine ag (dW k rfl (x:= .str Str.empty i) rfl ?_)
 refine ag (bX (wpAny_eqBool_str ?_))
 by_cases I:Str.empty=x
 ·refine(af I).symm▸?_
  simp only[Bool.not_true,Bool.false_eq_true,if_false]
  refine ag (wpAny_rule ?_)
  refine ag ?_
  refine ag (m:=field _ _) (dW k rfl (x:= .ref u) rfl ?_)
  refine ag (m:=slotLetsGo _ _ _) ?_
  refine ag (qF g N H ?_)
  refine(aw rfl).symm▸?_
  refine aA ?_
  refine ag (m:=setField _ _ _) (nW k (by refine(?_:0<3);decide) λ L MU k₁=> ?_)
  refine ag (m:=setField _ _ _) (nW MU (by refine(?_:1<3);decide) λ C pA k₂=> ?_)
  refine nW pA (by refine(?_:2<3);decide) λ c JV T=> ?_
  refine y3 (α:=_) (A':=A.in1) l λ h f n=> ?_
  have n:c.objs.size<=h.objs.size:=n
  exact h2 I.symm h (λ b o U e=>f _ _ (((T.2 _ U).trans ((k₂.2 _ U).trans (k₁.2 _ U))).trans e)) (f _ _ JV) (by
   have a1:L.objs.size=p.heap.objs.size:=k₁.1
   have a2:C.objs.size=L.objs.size:=k₂.1
   have a3:c.objs.size=C.objs.size:=T.1
   omega)
 ·refine(cg I).symm▸?_
  simp only[Bool.not_false,if_true]
  exact aA ⟨_,rfl,aA (h1 λ e=>I e.symm)⟩
end
end
section
open Sem (wp)
noncomputable abbrev GD(d:Addr):Obj:={cls:= .type "method-wrapper",data:= .fields #[.builtin "list_iterator.__next__",.ref d]}
theorem A9:isSubtype (.type "list_iterator") (.type "module")=pure false:=by rw[eX];kernel_rfl
section
variable{prog:Program}{w:World}
theorem w3{d:Addr}{Q:Unit->Shared->Prop}(j:s.TypeIs (.ref d) "list_iterator")(h:Q () s):wpAny (model prog w) A (checkBoundCall "list_iterator.__next__" ⟨[.ref d],[]⟩) Q E s:=by
 have f1:=A9
 obtain⟨hp,g,m,tk,os⟩:=s
 repeat(any_goals (first|assumption|wp_step))
theorem qG{a d:Addr}{R:Result->Shared->Prop}(E:s.heap.get? a=some (GD d))(j:s.TypeIs (.ref d) "list_iterator")(h:wpAny (model prog w) A.in1 (Builtin.«list_iterator.__next__» ⟨[.ref d],[]⟩) (λ fin s'=>match fin with| .done f=>R (.ok f) s'| .again G=>G.quiet=true/\codeAny (model prog w) A G R s') (λ e s'=>R (.error e) s') s):codeAny (model prog w) A (.call (.ref a) ⟨[],[]⟩) R s:=by
 refine codeAny_of_tree ?_
 refine(?_:wpAny _ _ (callAny (.ref a) _) _ _ _)
 refine nd_load E ?_
 show wpAny _ _ (checkBoundCall "list_iterator.__next__" ⟨[.ref d],[]⟩>>=λ D=>again (.builtin "list_iterator.__next__" ⟨[.ref d],[]⟩)) _ _ _
 refine ag (w3 j (aA ⟨Code.quiet_builtin _ (by decide+kernel),codeAny_builtin entry_listiter_next ?_⟩))
 exact h
theorem y5{a it l:Addr}{i:Nat}{items:Array Value}{x:Value}{R:Result->Shared->Prop}(E:s.heap.get? a=some (GD it))(hit:s.heap.IsListIter it l i)(N:s.heap.IsList l items)(I:items[i]? =some x)(j:∀h',h'.IsListIter it l (i+1)->Heap.SameBut it s.heap h'->R (.ok (.ret x)) {s with heap:=h'}):codeAny (model prog w) A (.call (.ref a) ⟨[],[]⟩) R s:=by
 refine qG E hit.typeIs ?_
 obtain⟨o,E,C,hd⟩:=id hit
 obtain⟨U,h,D,nl,G⟩:=N
 show wpAny _ _ (field (.ref it) 0>>=_) _ _ s
 refine ag (dW E hd (x:= .ref l) rfl ?_)
 refine(?_:wpAny _ _ (if(Value.ref l==Value.none)=true then _ else _) _ _ s)
 refine(av (show¬((Value.ref l==Value.none)=true) from kW)).symm▸?_
 show wpAny _ _ (field (.ref it) 1>>=_) _ _ s
 refine ag (dW E hd (x:= .int i 0) rfl ?_)
 show wpAny _ _ (seqItems? (.ref l)>>=_) _ _ s
 refine ag (wpAny_seqItems h G ?_)
 simp only[Int.toNat_natCast,I]
 refine ag (wpAny_setField E hd (by exact ai _) (aA (j _ ?_ (Heap.SameBut.update ..))))
 exact⟨_,Heap.get?_update_self _ E (Obj.isFreed_of_fields (Obj.data_mapFields hd _)),(Obj.cls_mapFields ..).trans C,by
  rw[Obj.data_mapFields hd];rfl⟩
inductive rB(it:Addr)(s:Shared)(e:Addr)(h':Heap):Prop
 |mk (oe:Obj) (vs:Array Value) (t:Value) (k1:∀b o,b≠it->s.heap.get? b=some o->h'.get? b=some o) (k2:s.heap.objs.size<=h'.objs.size) (k3:s.heap.get? e=none) (k4:h'.get? e=some oe) (k5:oe.cls= .type "StopIteration") (k6:oe.data= .fields vs) (k7:vs[0]? =some t) (k8:vs[1]? =some .none):rB it s e h'
theorem y6{a it l:Addr}{i:Nat}{items:Array Value}{R:Result->Shared->Prop}(r:A.handled=none)(E:s.heap.get? a=some (GD it))(hit:s.heap.IsListIter it l i)(N:s.heap.IsList l items)(I:items[i]? =none)(j:∀h' e,rB it s e h'->R (.error (.ref e)) {s with heap:=h'}):codeAny (model prog w) A (.call (.ref a) ⟨[],[]⟩) R s:=by
 refine qG E hit.typeIs ?_
 obtain⟨o,E,C,hd⟩:=id hit
 obtain⟨M,h,D,nl,G⟩:=N
 show wpAny _ _ (field (.ref it) 0>>=_) _ _ s
 refine ag (dW E hd (x:= .ref l) rfl ?_)
 refine(?_:wpAny _ _ (if(Value.ref l==Value.none)=true then _ else _) _ _ s)
 refine(av (show¬((Value.ref l==Value.none)=true) from kW)).symm▸?_
 show wpAny _ _ (field (.ref it) 1>>=_) _ _ s
 refine ag (dW E hd (x:= .int i 0) rfl ?_)
 show wpAny _ _ (seqItems? (.ref l)>>=_) _ _ s
 refine ag (wpAny_seqItems h G ?_)
 simp only[Int.toNat_natCast,I]
 refine ag (wpAny_rule (ag (wpAny_setField E hd (by exact Nat.zero_lt_succ _) ?_)))
 show wpAny _ _ (newExc (.type "StopIteration") []>>=_) _ _ _
 refine ag ?_
 simp only[newExc,newTuple]
 refine ag (nV ?_ (by size_fits))
 refine ag (m:=firstArgMember _ _) (gv (a:=Value.none) (by first|rfl|(simp only[firstArgMember];rfl)) ?_)
 refine nV ?_ (by size_fits)
 delta raiseNew
 refine ag (wpAny_handled ?_)
 refine(show A.in1.handled=none from r).symm▸?_
 refine ag (aA (wpAny_throw (j _ _ ⟨_,_,_,λ b o U e=>bt _ (bt _ ((nU _ _ (Ne.symm U)).trans e)),?_,?_,bM _ rfl,rfl,rfl,rfl,rfl⟩)))
 ·refine(?_:s.heap.objs.size<=(Array.push (Array.push (Heap.update _ _ _).objs _) _).size)
  rw[Array.size_push,Array.size_push,uK];exact au _ 2
 ·exact Heap.get?_none_of_le (by rw[cf,uK];exact dC _)
end
end
theorem y7{l:aj}:strOf l=Str.empty↔l=[]:=by
 constructor
 ·intro h
  have h:l.toArray= #[]:=aE Str.cps h
  simpa using h
 ·rintro rfl;rfl
theorem Qg{K:Frag}{f:Addr}(h:fnIn K f=true):∃o v,K.lookup f=some o/\o.data= .func v:=by
 delta fnIn at h
 generalize K.lookup f=r at h⊢
 induction r using Option.casesOn with
 |none=>exact nf h
 |some o=>
  obtain⟨a,b,d,y⟩:=o
  induction d using Data.casesOn<;>first|exact nf h|exact⟨_,_,rfl,rfl⟩
theorem Ba{f:Nat}{args:ar}{ns:List Str}{kws:ar}(h:gB J (d-1) (.glob f) args ns kws Q Y)(r:ja d A):ja (d-1) A.in1:=by
 induction d using Nat.casesOn with
 |zero=>exact h.elim
 |succ d=>exact r.in1
theorem D1(ok:bA J)(pk:cM J pg){i j:Nat}{a:List MS}(hA:dh J pg d a){x:Str}{xp:Pos}{n:List PySem.Stmt}(h1:k.gR x i=true)(h3:fQ k a n=true)(H:Top A env){c G:Vw}{s s':Shared}{U:ar}{m:ar->Mem->Prop}{Q:Fl->ar->Mem->Prop}{I:Shared->Prop}{R:Flow->Shared->Prop}(S:Step J c s G s' (Own env))(T:At J pg d k U G.Y A G s' env){fa:Nat}{self:V}(M:j<G.Y.n)(e:G.Y.f j= .dX fa self){C:Nat}(hC:pg.insts.contains C=true)(hm:pg.aY C 15=some fa)(w:gB J (d-1) (.glob fa) [self] [] [] (λ v Y=>Y.f j= .dX fa self/\match v with
   | .str l=>match l with
    |[]=>Q .next U (Y.set j .qR)
    |b::l=>wSs J pg d a (u7 m Q) (U.set i (.str (b::l))) Y
   |_=>False) G.Y)(g1:∀s',mA J pg d k A env c s m s'->I s')(g2:∀f s',bc J pg d k A env c s Q f s'->R f s'):
  wpAny J.ax A (pyNext (.ref (G.ρ j))) (λ r aq=>match r with
   |none=>wpAny J.ax A (execs [] env) R E aq
   |some v=>wpAny J.ax A (letOwnedTupleGo (.Name x xp) (.ref (G.ρ j)) v) (λ D Qh=>
     wpAny J.ax A (assign (.Name x xp) env v) (λ D aT=>wpAny J.ax A (execs n env) (λ f N=>Ct (I N) (R · N) f) E aT) E Qh) E aq) E s':=by
 have u:=T.rl.obj j M
 rw[e]at u
 obtain⟨D,q,t,e1,D,Cu,e3,r3⟩:=u
 obtain⟨of,fd,ek,ed⟩:=Qg (pk.aY C 15 fa hm hC).2.2.2.1
 refine y4 T.rm.1 e1 e3 (T.rl.K ok fa of ek) ed (method_call e3 (codeAny_mono (sF w A.in1 G s' (.ref fa) [Cu] [] (Ba w T.rm) T.sk rfl T.rl rfl ⟨r3,trivial⟩ trivial).2 λ r aT hr=> ?_))
 obtain⟨y,c₂,v,hy,o,rv,g,L⟩:=hr
 refine hy.symm▸?_
 have Ly:=o.rel.obj j (ah M o.carry.n)
 rw[g]at Ly
 obtain⟨gf,Tw,Mi,e4,D,JX,e5,r5⟩:=Ly
 have VC:c₂.ρ j=G.ρ j:=o.carry.ρ j M
 induction v using V.casesOn with
 |str l=>
  obtain⟨ty,rfl⟩:=rv
  refine VC▸?_
  refine⟨Tw,Mi,fa,JX,of,fd,strOf l,ty,e4,e5,o.rel.K ok fa of ek,ed,λ fo=> ?_,λ he h' k1 k2 k3=> ?_⟩
  ·induction l using List.casesOn with
   |nil=>exact absurd rfl fo
   |cons a0 l0=>
    refine aA (mM (dI (T.step o) h1 (v:= .str (a0::l0)) ⟨ty,rfl⟩ λ N p gC=>aV (hA k n _ _ c₂.Y A E c₂ N env h3 L gC H λ e s' t=>t.none λ D D D h=>h) (λ f jU jB=> ?_) λ D D z=>z))
    have SS:=(S.trans o.bO).trans (p.mono λ b hb=>hb.own)
    exact ta (jB.after SS) (g1 jU) λ f h=>g2 f jU h
  ·rw[y7.mp he]at L
   have p:=o.rel.upd (s':={aT with heap:=h'}) ⟨ah M o.carry.n,by refine g.symm▸?_;nofun⟩ .qR (λ b u eb hb=>k1 b u (λ q=>hb (by refine gf.symm▸q.symm▸?_;exact .head _)) eb) k3 rfl rfl λ ky=>⟨gf,k2⟩
   exact nX (g2 _ _ ⟨_,U,.next,(S.trans o.bO).trans p.bO,(T.step o).step p,rfl,L⟩)
 |_=>exact L.elim
theorem JY(ok:bA J)(pk:cM J pg)(ha:∀m,All J pg d m)(i:Nat)(it:ME){a:List MS}(hA:dh J pg d a):cu J pg d (.oq i it a):=by
 intro k st Q B Y A E c s env h w T H hE
 refine K9 (P:=λ st=>wpAny J.ax A (exec st env) (bc J pg d k A env c s Q) E s) h λ t i' a' xY p h=> ?_
 have h3:=ao h
 refine(mw h3.1).symm▸?_
 refine bW (P:=λ t=>wpAny J.ax A (exec (.For t i' a' [] p) env) (bc J pg d k A env c s Q) E s) h3.2 λ x xp h=> ?_
 have h2:=ao h
 have I:=ao h2.1
 refine wpAny_For (((ha it).e k i' _ B Y A E c s env I.2 w T).go λ xv L c₁ u S r z=>sj (P:=λ u=>aD c₁ L.heap u xv->_) z (λ j z r=> ?_) r) (pR I.2)
 refine r.2.symm▸?_
 obtain⟨g,n,j0,hJ⟩:=z
 have start:∃o,L.heap.get? (c₁.ρ j)=some o/\o.cls= .type "callable_iterator":=by
  have v:=hJ n B c₁.Y j0
  have l:=S.rel.obj j r.1
  generalize c₁.Y.f j=o at l v
  induction o using O.casesOn with
  |qR=>exact⟨_,l.2,rfl⟩
  |dX fa self=>obtain⟨D,q,t,y,D⟩:=l;exact⟨_,y,rfl⟩
  |_=>exact v.elim
 obtain⟨o,y,e2⟩:=start
 refine y0 y e2 (codeAny_forLoop_any (λ n=>mA J pg d k A env c₁ L (g n)) (λ n s' hI=> ?_) n ⟨c₁,B,.refl S.rel,T.step S,j0⟩)
 obtain⟨G,bj,U,M,j'⟩:=hI
 refine(U.carry.ρ j r.1)▸?_
 have v:=hJ n bj G.Y j'
 have VD:=ah r.1 U.carry.n
 have l:=M.rl.obj j VD
 generalize e:G.Y.f j=o at l v
 induction o using O.casesOn with
 |qR=>
  refine w2 T.rm.1 l.2 λ h' k1 k2=>nX ?_
  have N:Step J G s' G {s' with heap:=h'} cZ:=M.rl.other cZ (λ b o e D=>k1 b o e) (λ D h=>h.elim) k2 rfl rfl
  exact⟨G,bj,.next,(S.bO.trans U).trans N.bO,M.step N,rfl,v⟩
 |dX fa self=>
  obtain⟨⟨C,hC,hm⟩,v⟩:=v
  exact D1 ok pk hA I.1 h2.2 H U M VD e hC hm v (λ s' h=>let⟨c₂,mU,N,gJ,m,hm,q⟩:=h;⟨m,hm,c₂,mU,N,gJ,q⟩) λ f s' h=>h.after S.bO
 |_=>exact v.elim
theorem oM(R:Rel J c s){i:Nat}{vs:ar}(hi:i<c.Y.n)(e:c.Y.f i= .list vs):∃g n,s.heap.get? (c.ρ i)=some {cls:= .type "list",dict:= .none,data:= .seq g.toArray n,slots:= #[]}/\ay c s.heap vs g/\∀(f:Array Value->Array Value)(T:ar)(y:aL),f g.toArray=y.toArray->ay c s.heap T y->Step J c s (c.set i (.list T)) {s with heap:=s.heap.update (c.ρ i) (Obj.mapSeq f)} cZ:=by
 have t:=R.obj i hi
 rw[e]at t
 obtain⟨u,g,⟨n,x⟩,m⟩:=t
 refine⟨g,n,x,m,λ f T y A I=> ?_⟩
 have E:c.live i:=⟨hi,by rw[e];nofun⟩
 refine R.upd E (.list T) (λ b t h U=>by
   rw[u]at U;simp at U;exact(nU _ _ (Ne.symm U)).trans h) (by refine(?_:_<=(Heap.update _ _ _).objs.size);rw[uK];exact ai _) rfl rfl λ p=>⟨u,y,?_,I.carry p⟩
 have H:=IsL.update (n:=n) x f
 rw[A]at H
 exact⟨_,H⟩
theorem ay.last:∀{vs:ar}{xs:aL}{v:V},ay c h vs xs->vs.getLast?=some v->∃x,xs.getLast?=some x/\aD c h v x/\ay c h vs.dropLast xs.dropLast
 |[],_,_,_,h=>by exact nn h
 |[v],[x],w,r,h=>by obtain rfl:=aM h;exact⟨x,rfl,r.1,trivial⟩
 |[_],[],_,r,_=>r.elim
 |[_],_::_::_,_,r,_=>r.2.elim
 |v::a::vs,[],w,r,h=>r.elim
 |v::a::vs,[_],w,r,h=>r.2.elim
 |v::a::vs,x::E::xs,w,r,h=>by
  obtain⟨y,M,u,l⟩:=ay.last (vs:=a::vs) (xs:=E::xs) r.2 (by rw[<-h];rfl)
  exact⟨y,by rw[<-M];rfl,u,r.1,l⟩
theorem GF(R:Rel J c s){i:Nat}{vs:ar}{v:V}(hi:i<c.Y.n)(e:c.Y.f i= .list vs)(L:short vs=true)(j:vs.getLast?=some v)(q:Q v (c.Y.set i (.list vs.dropLast))):bL J A E c s (call (.builtin "list.pop") [.ref (c.ρ i)]) Q:=by
 obtain⟨g,n,U,m,put⟩:=oM R hi e
 have L:vs.length<=100000:=ae L
 obtain⟨x,I,b,H⟩:=m.last j
 have N:g.length<=100000:=by exact m.length▸L
 have hsz:g.toArray.size<=sizeLine:=by rw[cA,aQ];exact aa N (by decide)
 refine kB F.slot_list_pop ⟨_,U,rfl⟩ F.entry_list_pop (F.args_list_pop_1 _) (MeetsSeq.list_pop_last (c.ρ i) g.toArray n x (by
  rw[List.getLast?_eq_getElem?]at I;exact ib.trans I) hsz) ⟨U,?_⟩
 have S:=put (λ xs=>xs.eraseIdxIfInBounds (g.toArray.size-1)) vs.dropLast g.dropLast (by
  have M:g≠[]:=by rintro rfl;exact nn I
  have hp:0<g.length:=List.length_pos_iff.mpr M
  rw[cA]
  simp[Array.eraseIdxIfInBounds]
  intro h;omega) H
 exact⟨_,v,S,b.carry S.carry,q⟩
theorem Bb(R:Rel J c s){i:Nat}{vs:ar}(hi:i<c.Y.n)(e:c.Y.f i= .list vs)(L:short vs=true)(q:Q .none (c.Y.set i (.list []))):bL J A E c s (call (.builtin "list.clear") [.ref (c.ρ i)]) Q:=by
 obtain⟨g,n,x,m,put⟩:=oM R hi e
 have L:vs.length<=100000:=ae L
 have N:g.length<=100000:=by exact m.length▸L
 have hsz:g.toArray.size<=sizeLine:=by rw[cA,aQ];exact aa N (by decide)
 refine kB F.slot_list_clear ⟨_,x,rfl⟩ F.entry_list_clear (F.args_list_clear_1 _) (AutoSeq1.list_clear_list_0 (c.ρ i) g.toArray n hsz) ⟨x,?_⟩
 have S:=put (λ D=> #[]) [] [] rfl trivial
 exact⟨_,.none,S,rfl,q⟩
theorem y8(R:Rel J c s){i:Nat}{vs:ar}{v:V}{x:Value}(hi:i<c.Y.n)(e:c.Y.f i= .list vs)(L:short vs=true)(r:aD c s.heap v x)(q:Q .none (c.Y.set i (.list (vs++[v])))):bL J A E c s (call (.builtin "list.append") [.ref (c.ρ i),x]) Q:=by
 obtain⟨g,n,h,m,put⟩:=oM R hi e
 have L:vs.length<=100000:=ae L
 have N:g.length<=100000:=by exact m.length▸L
 refine mL slot_list_append ⟨_,h,rfl⟩ entry_list_append ?_ (args_list_append _ _)
 show wpAny _ _ (updateSeq (c.ρ i) (·.push x)>>=λ D=>ret .none) _ _ s
 have S:=put (·.push x) (vs++[v]) (g++[x]) (by simp) (m.append ⟨r,trivial⟩)
 exact ag (wpAny_updateSeq h rfl (aA ⟨.none,rfl,_,.none,S,rfl,q⟩) (by rw[cA,aQ];omega) (by rw[Array.size_push,cA,aQ];omega))
theorem ay.erase:∀{vs:ar}{xs:aL}{k:Nat},ay c h vs xs->ay c h (vs.eraseIdx k) (xs.eraseIdx k)
 |[],[],_,_=>trivial
 |[],_::_,_,r=>r.elim
 |_::_,[],_,r=>r.elim
 |v::vs,x::xs,0,r=>r.2
 |v::vs,x::xs,k+1,r=>⟨r.1,ay.erase r.2⟩
theorem Bc(R:Rel J c s){i:Nat}{vs:ar}{v:V}{k:Int}{t:Tok}(hi:i<c.Y.n)(e:c.Y.f i= .list vs)(L:short vs=true)(H:0<=k)(j:vs[k.toNat]? =some v)(q:Q v (c.Y.set i (.list (vs.eraseIdx k.toNat)))):bL J A E c s (call (.builtin "list.pop") [.ref (c.ρ i),.int k t]) Q:=by
 obtain⟨g,n,h,m,put⟩:=oM R hi e
 have L:vs.length<=100000:=ae L
 have N:g.length<=100000:=by exact m.length▸L
 have hsz:g.toArray.size<=sizeLine:=aQ▸aa N (by decide)
 obtain⟨x,I,U⟩:=m.get j
 have M:k.toNat<g.length:=(List.getElem?_eq_some_iff.mp I).1
 have b:k<(g.length:Int):=(Int.toNat_lt H).mp M
 have r:Builtin.List.listFitsIndex k=true:=Bool.and_eq_true_iff.mpr ⟨af (Int.le_trans (by decide) H),af (Int.lt_trans b (Int.lt_of_le_of_lt (gq.mpr N) (by decide)))⟩
 have u:seqIndex? k g.toArray.size=some k.toNat:=seqIndex_of H b
 refine kB F.slot_list_pop ⟨_,h,rfl⟩ F.entry_list_pop (F.args_list_pop_2 _ _) (MeetsSeq.list_pop_at (c.ρ i) g.toArray n k t k.toNat x r u (by exact ib.trans I) hsz) ⟨h,?_⟩
 have S:=put (λ xs=>xs.eraseIdxIfInBounds k.toNat) (vs.eraseIdx k.toNat) (g.eraseIdx k.toNat) (by simp[Array.eraseIdxIfInBounds,M]) m.erase
 exact⟨_,v,S,U.carry S.carry,q⟩
noncomputable def Xd:Obj:={cls:= .none,data:= .freed}
noncomputable def iD(h:Heap)(z:List Addr):Heap:=⟨h.objs.mapIdx λ i o=>if z.contains i then Xd else o,h.life⟩
theorem dn(h:Heap)(z:List Addr)(b:Addr):(iD h z).get? b=if z.contains b then none else h.get? b:=by
 simp only[iD,Heap.get?,Array.getElem?_mapIdx]
 cases e:h.objs[b]?with
 |none=>simp
 |some o=>
  by_cases i:z.contains b=true
  ·simp only[Option.map_some,i,if_true];rfl
  ·have i:b∉z:=by simpa using i
   simp[i]
noncomputable def uo(h g:Heap)(z:List Addr):Heap:=⟨h.objs.mapIdx λ i o=>if z.contains i then(g.objs[i]?).getD o else o,h.life⟩
theorem Cv{h g:Heap}{z:List Addr}{b:Addr}{o:Obj}(U:b∈z)(e:g.get? b=some o)(L:g.objs.size<=h.objs.size):(uo h g z).get? b=some o:=by
 have M:b<h.objs.size:=ah (cD e) L
 have i:z.contains b=true:=by simpa using U
 obtain⟨k,l⟩:=Heap.get?_some_iff.mp e
 refine Heap.get?_some_iff.mpr ⟨?_,l⟩
 refine(?_:(h.objs.mapIdx _)[b]? =some o)
 refine(Array.getElem?_mapIdx).symm▸(nT M).symm▸?_
 simp only[Option.map_some,i,if_true,k,Option.getD_some]
theorem y9{h g:Heap}{z:List Addr}{b:Addr}(U:b∉z):(uo h g z).get? b=h.get? b:=by
 have i:z.contains b=false:=by simpa using U
 simp only[uo,Heap.get?,Array.getElem?_mapIdx]
 cases e:h.objs[b]?with
 |none=>rfl
 |some o=>simp[U]
theorem vu{h g:Heap}{z:List Addr}:(uo h g z).objs.size=h.objs.size:=by simp[uo]
theorem Rel.D2(R:Rel J c s){i:Nat}(hi:c.live i){h':Heap}(H:∀b o,s.heap.get? b=some o->b∉c.fp i->b∉c.z->h'.get? b=some o)(v:∀b o,s.heap.get? b=some o->b∈c.z->∃y,h'.get? b=some {o with slots:=y})(L:s.heap.objs.size<=h'.objs.size):Step J c s (c.set i .dead) {s with heap:=h'} cZ:=by
 have I:Step J c s (c.set i .dead) {s with heap:=uo h' s.heap c.z} cZ:=R.upd hi .dead (λ b o e f=>by
  by_cases U:b∈c.z
  ·exact Cv U e L
  ·exact(y9 U).trans (H b o e f U)) (by refine(?_:_<=(uo _ _ _).objs.size);refine vu.symm▸?_;exact L) rfl rfl λ D=>trivial
 have d:Step J (c.set i .dead) {s with heap:=uo h' s.heap c.z} (c.set i .dead) {s with heap:=h'} cZ:=I.rel.slots (λ b o e f=>by
  have f:b∉c.z:=f
  exact(y9 (h:=h') (g:=s.heap) f)▸e) (λ b o e U=>by
  have U:b∈c.z:=U
  obtain⟨t,M,D⟩:=(R.d8 b U).2.1
  have:=Cv (h:=h') U M L
  have e:(uo h' s.heap c.z).get? b=some o:=e
  rw[this]at e
  obtain rfl:=aM e
  exact v b _ M U) (by refine(?_:(uo _ _ _).objs.size<=_);refine vu.symm▸?_;exact ai _) rfl rfl
 exact I.trans d
theorem GG{x:Str}{i:Nat}{v:V}{A A':Around}{p:Pos}{Q:dR}(T:At J pg d k B Y A c s env)(h:k.var x i=true)(n:B.getD i .aF=v)(l:v≠.aF)(q:∀y,aD c s.heap v y->Q y s):wpAny J.ax A' (eval (.Name x p) env) Q E s:=by
 obtain⟨M,H,a,g⟩:=CC.wx h
 have hi:B[i]? =some v:=by
  rw[kX]at n
  cases e:B[i]?with
  |none=>rw[e]at n;exact absurd n.symm l
  |some w=>rw[e]at n;exact aE some n
 refine wpAny_Name ?_ a
 rcases T.fv x i v H (T.kd.v x M) hi with z|⟨u,V,r⟩
 ·exact absurd z l
 ·exact lr T.en.kind V g (q u r)
theorem Lz(e:cM J pg){x:Str}{np:Pos}{i:Nat}{p:V->Bool}{A A':Around}{Q:dR}(T:At J pg d k B Y A c s env)(h:k.is x i p=true)(q:∀v y,p v=true->aD c s.heap v y->Q y s):wpAny J.ax A' (eval (.Name x np) env) Q E s:=by
 have h:=ao h
 have M:=ao h.1
 have a:=ao M.1
 rw[T.gg]at a M
 obtain⟨g,U,u⟩:=vU M.2
 refine wpAny_Name ?_ (i9 h.2)
 have w:=a.2
 rw[U]at w
 exact loadName_read T.en.kind (T.kd.g x (bh a.1))▸e.glob i x g.2 (by exact U.symm▸(show g.1=x from bh w)▸rfl) c s T.rl A' E Q (λ y r=>q g.2 y u r) env T.en.glob T.en.Mj
theorem za(ok:bA J)(U:cM J pg){i:Nat}{A A':Around}{G:aP}{Q:dR}(T:At J pg d k B Y A c s env)(h:Jo k i G=true){a:Nat}{vs:ar}{v:V}(M:B.getD i .aF= .ref a)(e:c.Y.f a= .list vs)(L:short vs=true)(I:vs.getLast?=some v)(q:∀x N s',Step J c s N s' cZ->N.Y=c.Y.set a (.list vs.dropLast)->aD N s'.heap v x->Q x s'):wpAny J.ax A' (eval G env) Q E s:=by
 refine fT (P:=λ G=>wpAny J.ax A' (eval G env) Q E s) h λ f as ks t h=> ?_
 have h:=ao h
 refine(mw (ao h.1).1).symm▸(mw (ao h.1).2).symm▸?_
 refine bG (P:=λ f=>wpAny J.ax A' (eval (.Call f [] [] t) env) Q E s) h.2 λ o n H h=> ?_
 have h:=ao h
 refine(bh (ao h.1).1).symm▸?_
 refine bW (P:=λ o=>wpAny J.ax A' (eval (.Call (.Attribute o (ba 1) H) [] [] t) env) Q E s) h.2 λ y p j=> ?_
 rw[l9 rfl]
 refine ag (GG T j M (by nofun) λ w r=>ag (c7 ?_))
 have C:ik pg c.Y (.ref a) 1=some (.bm .vV,[.ref a]):=by
  refine(?_:jv pg (c.Y.f a) _ _=_)
  refine e.symm▸?_
  rfl
 refine ag (bX ?_)
 refine(?_:wpAny _ _ (getMethod w (ba 1) _) _ _ _)
 refine pQ ok U T.rl r C λ g ys c₂ aT b l r1 r2=> ?_
 dsimp only
 delta methodCallPos
 rw[aw (by simp[ae (ao h.1).2])]
 refine ag (aA (bQ (dQ rfl rfl (wpAny_items_nil (aA ?_)))))
 refine(show g= .builtin "list.pop" from r1).symm▸?_
 refine⟨⟨.machine,Looks.now⟩,?_⟩
 obtain⟨y',j,hi,rfl⟩:=r2.one
 refine j.symm▸?_
 refine(GF (E:=E) (Q:=λ u σ'=>u=v/\σ'=c₂.Y.set a (.list vs.dropLast)) b.rel hi (by exact l▸e) L I ⟨rfl,rfl⟩).go λ x m b7 u a9 r3 z=> ?_
 rw[z.1]at r3
 exact q x b7 m (b.trans a9) (by exact z.2.symm▸l.symm▸rfl) r3
theorem GH(ok:bA J)(U:cM J pg){C st:Nat}{A A':Around}{N:PySem.Stmt}{Q:Flow->Shared->Prop}(T:At J pg d k B Y A c s env)(h:MQ k C st N=true){a e:Nat}{w:ar}{bC:List (Int×V)}{ep:Nat}{x:Int}(g1:B.getD st .aF= .ref a)(g3:B.getD C .aF= .ref e)(m1:c.Y.f a= .list w)(r:c.Y.f e= .dict bC ep)(L:short w=true)(I:w.getLast?=some (.int x))(H:short bC=true)(z:(bC.lookup x).isSome=true)(q:∀G s' ep,Step J c s G s' cZ->G.Y=(c.Y.set a (.list w.dropLast)).set e (.dict (bC.filter λ y=> !decide (y.1=x)) ep)->Q .next s'):wpAny J.ax A' (exec N env) Q E s:=by
 refine FD (P:=λ N=>wpAny J.ax A' (exec N env) Q E s) h λ ts p h=> ?_
 refine yA (P:=λ ts=>wpAny J.ax A' (exec (.Delete ts p) env) Q E s) h λ t h=> ?_
 refine d5 (P:=λ t=>wpAny J.ax A' (exec (.Delete [t] p) env) Q E s) h λ o i M h=> ?_
 have h:=ao h
 refine bW (P:=λ o=>wpAny J.ax A' (exec (.Delete [.Subscript o i M] p) env) Q E s) h.1 λ u up l=> ?_
 refine wpAny_Delete (wpAny_deleteEach_cons (wpAny_delete_Subscript (GG T l g3 (by nofun) λ ov b=>za ok U T h.2 g1 m1 L I λ kx g kT m j f=> ?_)))
 have b:=b.carry m.carry
 obtain⟨t,rfl⟩:=f
 refine b.2.symm▸?_
 obtain⟨v,n⟩:=uL.mp z
 have ne:e≠a:=λ q=>by rw[q,m1]at r;exact nomatch r
 exact JP m.rel b.1 (by rw[j];exact(av ne).trans r) H n λ Gz Xe pU=>wpAny_deleteEach_nil (q _ Gz Xe (m.trans pU) (by refine(?_:g.Y.set e _=_);exact j.symm▸rfl))
theorem GJ{α:Type}(vs:List α):idx vs (-1)=vs.getLast?:=by
 delta idx
 rw[av (by decide),List.getLast?_eq_getElem?]
 induction vs with
 |nil=>rfl
 |cons v l=>
  exact(aw (af (Int.neg_le_neg (gq.mpr (Nat.succ_pos l.length))))).trans (aE (λ n:Nat=>(v::l)[n]?) (aE Int.toNat (Int.subNatNat_of_le (Nat.succ_pos l.length)):((-1:Int)+((l.length+1:Nat):Int)).toNat=l.length+1-1))
theorem GK:isSubtype (.type "StopIteration") (.type "BaseException")=pure true:=by rw[eX];kernel_rfl
theorem D3:isSubtype (.type ((Manifest.find? "StopIteration").elim "type" λ x=>x.metatype)) (.type "tuple")=pure false:=by rw[eX];kernel_rfl
theorem JZ{y:Str}{I q:Pos}{G:aP}{it:Nat}(u:k.var y it=true)(r:one? G=true):bY 0 k (.sub (.var it) (.neg (.lit (.int 1)))) (.Subscript (.Name y I) G q)=true:=by
 refine pJ (P:=λ G=>bY 0 k (.sub (.var it) (.neg (.lit (.int 1)))) (.Subscript (.Name y I) G q)=true) r λ o a p h=> ?_
 have h:=ao h
 refine(ae h.1).symm▸?_
 refine iw (P:=λ a=>bY 0 k (.sub (.var it) (.neg (.lit (.int 1)))) (.Subscript (.Name y I) (.UnaryOp .USub a p) q)=true) h.2 λ c n d h=> ?_
 induction c using Const.casesOn with
 |int i=>
  refine(show i=1 from bh h).symm▸?_
  refine(?_:(true&&k.var y it&&true)=true)
  refine u.symm▸?_
  rfl
 |_=>exact nf h
theorem dS{i j:Nat}{o:O}(h:j≠i):(Y.set i o).f j=Y.f j:=av h
theorem GL{b:Nat}{is:ar}{v:V}(m2:Y.f b= .list is)(L:short is=true)(r:is.getLast?=some v):gA Y (.ref b) (.int (-1))=some v:=by
 have L:is.length<=100000:=ae L
 delta gA
 simp only[m2]
 rw[aw (by simp;exact aa L (by decide)),GJ,r]
theorem GN(ha:∀m,All J pg d m){i it:Nat}{N:PySem.Stmt}(h:Pr k i it N=true)(T:At J pg d k B Y A c s env){b j l kk:Nat}{is vs:ar}(g2:B.getD it .aF= .ref b)(m2:c.Y.f b= .list is)(L:short is=true)(m4:is.getLast?=some (.ref j))(I:c.Y.f j= .xX l kk)(m6:c.Y.f l= .list vs){Q:Flow->Shared->Prop}(q1:∀v G s',vs[kk]? =some v->Step J c s G s' (Own env)->At J pg d k (B.set i v) G.Y A G s' env->G.Y=c.Y.set j (.xX l (kk+1))->Q .next s')(q2:∀c₁ w dd e h',vs[kk]? =none->Step J c s c₁ w cZ->c₁.Y=c.Y->c₁.live j->c₁.fp j=[c₁.ρ j,dd]->rB dd w e h'->E (.ref e) {w with heap:=h'}):wpAny J.ax A (exec N env) Q E s:=by
 refine oy (P:=λ N=>wpAny J.ax A (exec N env) Q E s) h λ ts v p h=> ?_
 refine yA (P:=λ ts=>wpAny J.ax A (exec (.Assign ts v p) env) Q E s) h λ t h=> ?_
 refine bW (P:=λ t=>wpAny J.ax A (exec (.Assign [t] v p) env) Q E s) h λ x U h=> ?_
 have h:=ao h
 have h1:=h.1
 refine fT (P:=λ v=>wpAny J.ax A (exec (.Assign [.Name x U] v p) env) Q E s) h.2 λ f as ks n h=> ?_
 have h:=ao h
 refine(mw (ao h.1).1).symm▸(mw (ao h.1).2).symm▸?_
 refine d5 (P:=λ f=>wpAny J.ax A (exec (.Assign [.Name x U] (.Call f [] [] n) p) env) Q E s) h.2 λ o e0 sp h=> ?_
 have h:=ao h
 refine bW (P:=λ o=>wpAny J.ax A (exec (.Assign [.Name x U] (.Call (.Subscript o e0 sp) [] [] n) p) env) Q E s) h.1 λ y yp hy=> ?_
 have hw:wE J pg d (.sub (.var it) (.neg (.lit (.int 1)))) (λ v σ'=>v= .ref j/\σ'=c.Y) B Y:=by
  refine T.sg▸?_
  refine(?_:got (B.getD it .aF) (λ v=>opt (gA c.Y v (.int (-1))) λ u=>u= .ref j/\c.Y=c.Y))
  refine g2.symm▸?_
  refine(?_:opt (gA c.Y (.ref b) (.int (-1))) _)
  exact GL m2 L m4▸⟨rfl,rfl⟩
 refine wpAny_Assign_stores ?_ rfl rfl
 show wpAny _ _ (eval (.Subscript (.Name y yp) e0 sp) env>>=λ gg=>callWith n gg [] (backTo n (starEach [] env)) (backToKw n (keywordEach [] env))) _ _ _
 refine ag (((ha (.sub (.var it) (.neg (.lit (.int 1))))).e k _ _ B Y A _ c s env (JZ hy h.2) hw T).go λ xv w c₁ vv S r z=> ?_)
 rw[z.1]at r
 refine r.2.symm▸?_
 rw[<-z.2]at I m6
 have H:=S.rel.obj j r.1
 rw[I]at H
 obtain⟨dd,C,fo,hl,M,e2⟩:=H
 have VG:=S.rel.obj l hl
 rw[m6]at VG
 obtain⟨Qi,aK,sq,rs⟩:=VG
 have lj:c₁.live j:=⟨r.1,by refine I.symm▸?_;nofun⟩
 refine bQ (dQ rfl rfl (wpAny_items_nil (aA ⟨⟨.machine,(Looks.ld (part:=none) M).andThen .now⟩,?_⟩)))
 cases a:vs[kk]?with
 |some v'=>
  obtain⟨xv,Xf,rx⟩:=rs.get a
  refine wpAny_call (y5 M e2 sq.isList (ib.trans Xf) λ h' hit L=> ?_)
  have g:=S.rel.upd (s':={w with heap:=h'}) lj (.xX l (kk+1)) (λ b H eb nb=>(L.2 b (λ q=>nb (by refine C.symm▸q.symm▸?_;exact .tail _ (.head _)))).trans eb) (bN L.1.symm) rfl rfl
   λ ky=>⟨dd,C,fo,hl,(L.2 _ fo).trans M,hit⟩
  refine(?_:wpAny _ _ (assign (.Name x U) env xv) _ _ _)
  exact mM (dI ((T.step S).step g) h1 (rx.carry g.carry) λ bx a9 gC=>q1 v' _ bx a ((S.trans g).bO.trans (a9.mono λ b hb=>hb.own)) gC (by refine z.2▸?_;rfl))
 |none=>
  exact wpAny_call (y6 T.rm.1 M e2 sq.isList (by
   have h0:=List.getElem?_eq_none_iff.mp a
   rw[rs.length]at h0
   exact ib.trans (List.getElem?_eq_none h0)) λ h' e k=>q2 c₁ w dd e h' a S z.2 lj C k)
theorem nu(R:Rel J c s){h' g:Heap}{dd:Addr}(hd:∀b∈c.z,b≠dd)(k1:∀b o,b≠dd->s.heap.get? b=some o->h'.get? b=some o)(U:∀b∈c.z,g.get? b=none){x:List Env}(h:∀e∈x,e.scope.kind≠.module/\∃L,e.frame=some L/\L∈c.z):h'.FunFrames g x:=by
 induction x with
 |nil=>trivial
 |cons e rest y=>
  obtain⟨a1,L,a2,Q⟩:=h e (.head _)
  obtain⟨o,b1,b2⟩:=(R.d8 L Q).2.1
  exact⟨a1,⟨L,o,a2,U L Q,k1 _ _ (hd _ Q) b1,b2⟩,y λ C h'=>h C (.tail _ h')⟩
theorem w5(pk:cM J pg){Q:Flow->Shared->Prop}(T:At J pg d k B Y A c s env)(H:Top A env){j g:Nat}(v:c.live j){dd w:Addr}{h':Heap}(t:c.fp j=[c.ρ j,dd])(K:rB dd s w h'){i:ExceptHandler}{f:PySem.Stmt->PySem.Stmt->Bool}(C:SO i (λ z a b=>(cK z λ z D=>k.is z g (OD .ll))&&f a b)=true)(q:∀a b x A',f a b=true->Step J c s (c.set j .dead) {s with heap:=x} cZ->∀u,wpAny J.ax A' (execs [a,b] env) Q u {s with heap:=x}):wpAny J.ax A (noteFrame (.ref w) env) (λ D aT=>wpAny J.ax A (setFlight (.ref w) none) (λ D bx=>wpAny J.ax A (handleBy (.ref w) env [i]) Q E bx) E aT) E {s with heap:=h'}:=by
 obtain⟨ox,Yt,t0,k1,k2,k3,l,k5,G,k7,N⟩:=K
 obtain⟨outer,I⟩:=H
 obtain⟨fl,zb,my⟩:=T.sk
 rw[I]at zb
 obtain rfl:=aM zb
 obtain⟨VH,L,hL,R0⟩:=my env (.head _)
 have VI:∀b∈c.z,b≠dd:=λ b U q=>(T.rl.d8 b U).2.2.1 (Rel.di v (by refine t.symm▸q.symm▸?_;exact .tail _ (.head _)))
 have VJ:∀b,b∈w::c.z->(iD h' (w::c.z)).get? b=none:=λ b U=>by rw[dn,aw (List.contains_iff_mem.mpr U)]
 have Tz:(iD h' (w::c.z)).StaysIn h':=λ b o h=>by
  rw[dn]at h
  split at h
  ·exact nn h
  ·exact h
 have iL:∀m:Heap,(iD h' (w::c.z)).StaysIn m->(∀b o,h'.get? b=some o->(∀vs,o.data≠.fields vs)->∃y,m.get? b=some {o with slots:=y})->h'.objs.size<=m.objs.size->Step J c s (c.set j .dead) {s with heap:=m} cZ:=λ m q1 q2 q3=>by
  refine T.rl.D2 v (λ b o h nb nz=>q1 b o ?_) (λ b o h hz=> ?_) (aa k2 q3)
  ·rw[dn,av λ q=>(bg.mp (List.contains_iff_mem.mp q)).elim (λ q=>by rw[q,k3]at h;exact nomatch h) nz]
   exact k1 b o (λ q=>nb (by refine t.symm▸q.symm▸?_;exact .tail _ (.head _))) h
  ·obtain⟨o',b1,b2⟩:=(T.rl.d8 b hz).2.1
   rw[b1]at h
   obtain rfl:=aM h
   exact q2 b _ (k1 _ _ (VI _ hz) b1) b2
 delta noteFrame
 simp only[hL]
 refine ag (dW l G N ?_)
 rw[av (by decide)]
 refine aW λ u=>wpAny_entryW (base:=iD h' (w::c.z)) I (nu T.rl VI k1 (λ b U=>VJ b (.tail _ U)) my) hL l Tz (VJ _ (.head _)) G (Array.getElem?_eq_some_iff.mp N).1 k7 (λ b8 hN TA=> ?_)
 obtain⟨n1,n2,n3,n4⟩:=hN
 refine aW λ u=>wpAny_setFlight_noneW n1 n2 n3 (λ M p1 p2 p3 p4 n=> ?_)
 have n:=aa (show h'.objs.size<=b8.objs.size from TA) (show b8.objs.size<=M.objs.size from n)
 have Qj:∀b o,h'.get? b=some o->(∀vs,o.data≠.fields vs)->∃y,M.get? b=some {o with slots:=y}:=λ b o h hd=>let⟨y,e⟩:=n4 b o h hd;⟨y,p4 b _ e hd⟩
 have gC:=T.step (iL M p1 Qj n)
 refine SP (P:=λ i=>wpAny J.ax A (handleBy (.ref w) env [i]) Q E {s with heap:=M}) C λ z a b p C=> ?_
 have C:=ao C
 refine bW (P:=λ z=>wpAny J.ax A (handleBy (.ref w) env [.ExceptHandler (some z) none [a,b] p]) Q E {s with heap:=M}) C.1 λ z zp h7=> ?_
 refine wpAny_handleBy_builtin (X:="StopIteration") (T:="StopIteration") (b:=true) GK D3 isSubtype_stop (Lz pk gC h7 λ vv yy hv r=> ?_)
 rw[F4 hv]at r
 refine⟨r,?_,?_⟩
 ·obtain⟨oe,D,D,D,D,he,⟨C,D⟩,D⟩:=p3
  exact⟨oe,he,C.trans k5⟩
 refine(aw rfl).symm▸?_
 refine aW λ u=>wpAny_setFlight_noneW p1 p2 p3.at (λ x r1 r2 r3 r4 TB=>q a b x _ C.2 (iL x r1 (λ b o h hd=>let⟨y,e⟩:=Qj b o h hd;⟨y,r4 b _ e hd⟩) (aa n TB)) _)
theorem D4(ok:bA J)(M:cM J pg)(ha:∀m,All J pg d m)(i st it C g:Nat):cu J pg d (.lW i st it C g):=by
 intro k VK Q B Y A E c s env h w T H hE
 refine FG (P:=λ VK=>wpAny J.ax A (exec VK env) (bc J pg d k A env c s Q) E s) h λ body L xY fin p h=> ?_
 have h:=ao h
 have G:=ao h.1
 refine(mw (ao G.1).1).symm▸(mw (ao G.1).2).symm▸?_
 refine Jg (P:=λ body=>wpAny J.ax A (exec (.Try body L [] [] p) env) (bc J pg d k A env c s Q) E s) G.2 λ sa N U=> ?_
 have U:=ao U
 refine yA (P:=λ L=>wpAny J.ax A (exec (.Try [sa,N] L [] [] p) env) (bc J pg d k A env c s Q) E s) h.2 λ h0 hh=> ?_
 have w:Pl i st it C Q B Y:=w
 rw[<-T.sg]at w
 refine wj w λ a g1 w=>wj w λ b g2 w=>wj w λ e g3 w=>wk w λ ss m1 w=>wk w λ is m2 w=>Jf w λ bC ep I w=>de w λ vj u w=>wj w λ j ej w=>MF w.2 λ l kk z y=>wk y λ vs m6 y=> ?_
 rw[ej]at u
 refine wpAny_Try_except (kC (GN ha U.2 T g2 m2 w.1 u z m6 (λ v c' s' t S T' e=> ?_) λ c₁ aq dd x0 h' t S t7 lj gf K=> ?_))
 ·rw[t,<-e]at y
  exact kC (B3 (P:=λ N=>wpAny J.ax A (exec N env) _ _ s') U.1 λ p D=>wpAny_Break ⟨c',_,.brk,S,T',rfl,y⟩)
 ·rw[t]at y
  have y:K6 Q B c.Y a b e j ss is bC:=y
  refine de y λ vx hx y=>MD y λ x ex y=> ?_
  rw[ex]at hx
  have c4:=ao y.1
  have c3:=ao c4.1
  have c2:=ao c3.1
  rw[<-t7]at m1 m2 I z
  refine w5 (f:=λ a b=>MQ k C st a&&u9 b λ e D=>Jo k it e) M (T.step S) H lj gf K hh λ sc sd jB A' r cV E'=> ?_
  have r:=ao r
  have JL:=(T.step S).step cV
  have ne:∀{n o},c₁.Y.f n=o->(∀l k,o≠.xX l k)->(c₁.set j .dead).Y.f n=o:=λ{n o} h hn=>(dS λ q=>by rw[q,z]at h;exact hn _ _ h.symm).trans h
  refine kC (GH ok M JL r.1 g1 g3 (ne m1 nofun) (ne I nofun) c2.1 hx c2.2 c3.2 λ je kT Xh eC e5=>kC ?_)
  refine AE (P:=λ sd=>wpAny J.ax A' (exec sd env) _ _ kT) r.2 λ e0 ep hp=> ?_
  have Xi:je.Y.f b= .list is:=by
   exact e5▸(dS λ q=>by rw[q,I]at m2;exact nomatch m2).trans ((dS λ q=>of_decide_eq_false (i9 c4.2) q.symm).trans (ne m2 nofun))
  have pS:=JL.step eC
  refine wpAny_Expr_any (za ok M pS hp g2 Xi w.1 u λ D Nn TC J1 e7 D=>nX ⟨Nn,B,.next,((S.trans cV).trans (eC.trans J1)).bO,pS.step J1,rfl,?_⟩) T.fn (fT (P:=λ e0=>swapsWith e0 none ep.line env=pure false) hp λ D D D D D=>rfl)
  refine e7.symm▸e5.symm▸?_
  have q:=y.2 Xh
  rw[<-t7]at q
  exact q
theorem GO(g:∀m,All J pg d m)(o i:ME)(op:Operator)(e:ME):cu J pg d (.m7 o i op e):=by
 intro k st Q B Y A E c s env h w T H hE
 refine i0 (P:=λ st=>wpAny J.ax A (exec st env) (bc J pg d k A env c s Q) E s) h λ C qv v p h=> ?_
 refine d5 (P:=λ C=>wpAny J.ax A (exec (.AugAssign C qv v p) env) (bc J pg d k A env c s Q) E s) h λ I G sp h=> ?_
 have j:=ao h
 have r:=ao j.1
 have t:=ao r.1
 have h1:=ao t.1
 refine(ae r.2)▸?_
 refine bW (P:=λ G=>bY 0 k i G=true->wpAny J.ax A (exec (.AugAssign (.Subscript I G sp) op v p) env) (bc J pg d k A env c s Q) E s) h1.1 (λ y yp D hi=> ?_) t.2
 refine wpAny_AugAssign_SubscriptAny (((g o).e k I _ B Y A E c s env h1.2 w T).go λ x aq c₁ u l jy aG=>((g i).e k _ _ B c₁.Y A E c₁ aq env hi aG (T.step l)).go λ z aT c₂ vi M gw U=>de U λ a jb U=> ?_)
 refine(u0 (Q:=λ b Y=>b=a/\Y=c₂.Y) M.rel (jy.carry M.carry) gw jb ⟨rfl,rfl⟩).2.go λ x3 bx b7 b a9 oh JV=> ?_
 rw[JV.1]at oh
 have U:=(jT U).2
 rw[<-JV.2]at U
 refine((g e).e k v _ B b7.Y A E b7 bx env j.2 U (((T.step l).step M).step a9)).go λ x4 jU sC b4 N yI n=>de n λ res hr n=>de n λ f hf q=> ?_
 refine(pT (Q:=λ v Y=>v=res.1/\Y=res.2) N.rel (oh.carry N.carry) yI hr ⟨rfl,rfl⟩).go λ x5 kT je b5 eC Qk Ql=> ?_
 rw[Ql.1]at Qk
 rw[<-Ql.2]at hf
 have L:=(a9.trans N).trans eC
 exact(oJ (Q:=λ σ'=>Q .next B σ') eC.rel ((jy.carry M.carry).carry L.carry) (gw.carry L.carry) Qk hf q).go λ D Gz GB pU q=>have SS:=((l.trans M).trans L).trans pU
  ⟨GB,B,.next,SS.bO,T.step SS,rfl,q⟩
theorem Bd{f:V}{args:ar}{X:Nat->Mem->Prop}(w:lB J d f args Q X Y):sr J d f args Q X Y:=by
 induction d with
 |zero=>exact w.elim
 |succ d=>exact w
theorem GP{ws:ar}{ks:List (Str×Value)}(r:c8 c h [] ws ks):ks=[]:=by
 induction ks using List.casesOn with
 |nil=>rfl
 |cons=>induction ws using List.casesOn<;>exact r.elim
theorem J2(ok:bA J)(pk:cM J pg)(n:∀m,All J pg d m)(o:ME)(m:Nat)(args:List ME):cu J pg d (.lB o m args):=by
 intro k st Q B Y A E c s env h w T H hE
 refine AE (P:=λ st=>wpAny J.ax A (exec st env) (bc J pg d k A env c s Q) E s) h λ e p h=> ?_
 refine fT (P:=λ e=>wpAny J.ax A (exec (.Expr e p) env) (bc J pg d k A env c s Q) E s) h λ g as ks cp h=> ?_
 have h:=ao h
 refine(mw h.1).symm▸?_
 refine bG (P:=λ g=>wpAny J.ax A (exec (.Expr (.Call g as [] cp) p) env) (bc J pg d k A env c s Q) E s) h.2 λ o' name ap h=> ?_
 have t:=ao h
 have U:=ao t.1
 have M:=ao U.1
 have N:=ao M.1
 have u:=ao N.1
 have I:=ao u.1
 refine(bh I.2).symm▸?_
 refine wpAny_Expr_any ?_ T.fn rfl
 refine(l9 I.1).symm▸?_
 refine ag (((n o).e k o' _ B Y A E c s env N.2 w T).go λ ov aq c₁ v S r b=>ag (c7 (de b λ x hf b=> ?_)))
 obtain⟨f,first⟩:=x
 delta methodCall
 rw[fw,U.2,t.2]
 refine ag (bX ?_)
 refine(?_:wpAny _ _ (getMethod ov (ba m) _) _ _ _)
 refine pQ ok pk S.rel r hf λ y ys c₂ aT L e2 r1 r2=> ?_
 rw[<-e2]at b
 dsimp only
 delta methodCallPos
 rw[aw (by simp[ae u.2])]
 refine ag (aA (bQ (kH.go (eT (ks:=[]) (ns:=[]) (P:=λ vs ws Y=>lB J d f (first++vs) (λ D Y=>Q .next B Y) (λ C Y=>Q (.exc C) B Y) Y) (mS λ m D=>n m) (vt λ m D=>n m) jV M.2 (by simp) rfl rfl rfl b (T.step (S.trans L))) λ a bx b7 vs ws z rs rk c5=> ?_)))
 have j:=(S.trans L).trans z
 have l:=Bd c5 A b7 bx y (ys++a.pos) T.rm (T.step j).sk rfl z.rel (r1.carry z.carry) ((r2.carry z.carry).append rs)
 refine(GP rk).symm▸?_
 refine⟨l.1,wpAny_call (codeAny_mono l.2 λ r s' hr=> ?_)⟩
 induction hr with
 |ok h=>obtain⟨x,G,v,e,i,rv,q⟩:=h;exact e▸⟨G,B,.next,(j.trans i).bO,T.step (j.trans i),rfl,q⟩
 |exc e C G g he i f q=>exact he▸hE _ _ ⟨e,C,G,B,g,rfl,(j.trans i).bO,T.step (j.trans i),.To f,q⟩
theorem Qm{K:Frag}{h₀ h:Heap}{N:Addr}{o:Obj}{f:Str->Option Value}(e:K.lookup N=some o)(i:K.In h₀)(X:K.In h)(n:h₀.Ns N f):h.Ns N f:=by
 obtain⟨M,es,ep,U,r⟩:=n
 rw[i _ _ e]at U
 rw[<-aM U]at r
 exact⟨o,es,ep,X _ _ e,r⟩
theorem D5{K:Frag}{N:Addr}(h:nsOkIn K N=true):∃o,K.lookup N=some o:=by
 unfold nsOkIn at h
 generalize K.lookup N=x at h
 induction x using Option.casesOn with
 |none=>exact nf h
 |some o=>exact⟨o,rfl⟩
theorem J3(ok:bA J)(G:cM J pg)(j:∀m,All J pg d m)(g C:Nat)(args:List ME):cu J pg d (.se g C args):=by
 intro k st Q B Y A E c s env h w T H I
 refine Jl (P:=λ st=>wpAny J.ax A (exec st env) (bc J pg d k A env c s Q) E s) h λ ex cause p h=> ?_
 have h:=ao h
 refine(rQ.mp h.1).symm▸?_
 obtain⟨e,rfl,h5⟩:=vU h.2
 refine fT (P:=λ e=>wpAny J.ax A (exec (.Raise (some e) none p) env) (bc J pg d k A env c s Q) E s) h5 λ f as ks n h=> ?_
 have h:=ao h
 refine(mw h.1).symm▸?_
 refine bW (P:=λ f=>wpAny J.ax A (exec (.Raise (some (.Call f as [] n)) none p) env) (bc J pg d k A env c s Q) E s) h.2 λ x np h=> ?_
 have u:=ao h
 have M:=ao u.1
 obtain⟨hx,⟨gx,hg⟩,w⟩:=w
 obtain⟨nm,q,N,bs,hdct,sn,sub,ab,col,dd,k0,k1,k2,k3,k5,hC,U,hi⟩:=G.exc C hx
 have i:J.K.In J.h₀:=λ a o e=>(ok.Pf a o e).1
 obtain⟨oN,eN⟩:=D5 U
 have TF:J.h₀.Ns N (J.h₀.nsMap N):= .of_isNs (isNs_of_in i U)
 have TG:(backTo n (starEach as env)).any (·.1)=false:=by
  rw[<-Bool.not_eq_true,List.any_eq_true]
  rintro⟨z,hz,S5⟩
  have:=fg.mp (sE.trans u.2) z hz
  rw[S5]at this
  exact nf this
 rw[arm_exec_Raise]
 show wpAny _ _ (standAt p>>=λ D=>raiseStmt env (some (eval (.Call (.Name x np) as [] n) env>>=λ v=>standAt p>>=λ D=>pure v)) none) _ _ _
 refine ag (c7 (wpAny_raiseStmt_made_sub (C:=C) (nm:=nm) (q:=q) (N:=N) (bs:=bs) (bm:=B5) (hdct:=hdct) (sn:=sn) (sub:=sub) (ab:=ab) (col:=col) (dd:=dd) (k0:=k0) (k1:=k1) (k2:=k2) (k3:=k3) (k5:=k5) (newId:="ValueError.__new__") F.excBase_ValueError.hasBase T.rm.1 (ag ?_)))
 show wpAny _ _ (eval (.Name x np) env>>=λ g=>callWith n g [] (backTo n (starEach as env)) (backToKw n (keywordEach [] env))) _ _ _
 refine ag (((j (.ck g)).e k (.Name x np) (λ v σ'=>v= .glob C/\σ'=c.Y) B Y A E c s env M.1 (by refine(?_:opt pg.G[g]? _);exact hg▸⟨rfl,T.sg.symm⟩) T).go λ xf aq c₁ v S r z=> ?_)
 rw[z.1]at r
 refine(show xf= .ref C from r).symm▸?_
 rw[<-T.sg,<-z.2]at w
 refine ag (bX (kH.go (t:=evalArgs (.ref C) true (backTo n (starEach as env)) (backToKw n (keywordEach [] env))) (eT (ks:=[]) (ns:=[]) (f:= .ref C) (P:=λ vs ws Y=>short vs=true/\Q (.exc C) B Y) (mS λ m D=>j m) (vt λ m D=>j m) jV M.2 (by simp) rfl rfl rfl w (T.step S)) λ a bx b7 vs ws y rs rk b=>ag (c7 ?_)))
 obtain⟨l,ak⟩:=a
 obtain rfl:ak=[]:=GP rk
 have hlen:l.length<=sizeLine:=by refine rs.length▸aQ.symm▸?_;exact aa (ae b.1) (by decide)
 have L:=y.rel.K ok _ _ hC
 have Qn:=Qm eN i (y.rel.K ok) TF
 rw[TG]
 obtain⟨hp,gn,dr,tk,os⟩:=bx
 refine ag (wpAny_keeperOf_exc L ?_)
 refine ag (aW λ E'=>wpAny_call_exc_sub (hrest:=hlen) F.excBase_ValueError L Qn (nsMap_none_of_in i U hi) λ h' e m sz=>ag (bX (wpAny_point (aA (ag (c7 (aA ?_)))))))
 obtain⟨t,ht,D,D⟩:=m.there
 exact⟨e,t,rfl,m.keeps _ _ L,ht,I _ _ ⟨e,C,b7,B,hp,rfl,(S.trans y).bO,T.step (S.trans y),.made l m sz,b.2⟩⟩
theorem TH{C:Nat}{v:V}(h:SQ C v=true):v= .glob C:=by
 induction v using V.casesOn<;>first|exact nf h|exact aE V.glob (ae h).symm
theorem Qo{h:Option (Nat×V)}{i:PySem.Stmt}(U:FJ k h i=true)(T:At J pg d k B Y A c s env){A':Around}{P:Flow->Shared->Prop}(q:∀G s',Step J c s G s' (Own env)->G.Y=Y->At J pg d k (RP h B) Y A G s' env->P .next s'):wpAny J.ax A' (execs [i] env) P E s:=by
 induction h using Option.casesOn with
 |none=>exact MK (P:=λ i=>wpAny J.ax A' (execs [i] env) P E s) U λ p D=>kC (wpAny_Pass (nX (q c s (.refl T.rl) T.sg T)))
 |some x=>
  refine oy (P:=λ i=>wpAny J.ax A' (execs [i] env) P E s) U λ ts v p h=> ?_
  refine yA (P:=λ ts=>wpAny J.ax A' (execs [.Assign ts v p] env) P E s) h λ t h=> ?_
  have h:=ao h
  refine bW (P:=λ t=>wpAny J.ax A' (execs [.Assign [t] v p] env) P E s) h.1 λ y I j=> ?_
  refine iw (P:=λ v=>wpAny J.ax A' (execs [.Assign [.Name y I] v p] env) P E s) h.2 λ cst kd n C=> ?_
  refine kC (wpAny_Assign_stores ?_ rfl rfl)
  refine bL.go (A:=A') (E:=E) (qx (Q:=λ u σ'=>u=x.2/\σ'=c.Y) T.rl C ⟨rfl,rfl⟩) λ l m c₁ u S r z=> ?_
  rw[z.1]at r
  have w:=T.step S
  rw[z.2,T.sg]at w
  refine(?_:wpAny _ _ (assign (.Name y I) env l) _ _ _)
  exact mM (dI w j r λ M a H=>nX (q c₁ M (S.bO.trans (a.mono λ b U=>U.own)) (z.2.trans T.sg) H))
inductive GS(c:Vw)(A:Around)(env:Env)(g:Heap)(C:Nat)(e:Addr)(h:Heap):Prop
 |mk (base:Heap) (a0:Value) (l:List Env) (L:Addr) (kb:∀b o,g.get? b=some o->b∉c.z->base.get? b=some o) (up:∀b o,g.get? b=some o->b∈c.z->∃sl,h.get? b=some {o with slots:=sl}) (sz:g.objs.size<=h.objs.size) (hl:Heap.HeldW base l e (.ref C) a0 L h):GS c A env g C e h
theorem vw{g h h':Heap}(R:Rel J c {s with heap:=g})(C:∀b o,g.get? b=some o->b∈c.z->∃y,h.get? b=some {o with slots:=y})(u:h.UpToSlots h'):∀b o,g.get? b=some o->b∈c.z->∃y,h'.get? b=some {o with slots:=y}:=λ b o e i=>by
 obtain⟨y,k⟩:=C b o e i
 obtain⟨M,l,H⟩:=(R.d8 b i).2.1
 have l:g.get? b=some M:=l
 rw[e]at l
 obtain rfl:=aM l
 obtain⟨U,z⟩:=u b _ k H
 exact⟨U,z⟩
theorem GU{C:Nat}{x:Addr}{g:Heap}{Q:Unit->Shared->Prop}(T:At J pg d k B Y A c {s with heap:=g} env)(H:Top A env)(f:Cq c A g C x s.heap)(q:∀h',GS c A env g C x h'->Q () {s with heap:=h'}):wpAny J.ax A (noteFrame (.ref x) env) Q E s:=by
 obtain⟨outer,n⟩:=H
 obtain⟨N,u,p⟩:=T.sk
 rw[n]at u
 obtain rfl:=aM u
 obtain⟨VH,L,I,R0⟩:=p env (.head _)
 induction f with
 |To f=>
  obtain⟨base,y,U,w,i,N⟩:=f
  exact aW λ r=>wpAny_looks_onW n I (N _ n) λ h' l a z=>q h' ⟨base,y,_,L,U,vw T.rl w a,aa i z,l⟩
 |made args m i=>
  obtain⟨M,j,t,he,Xj,Xk⟩:=m
  have nx:∀b∈c.z,b≠x:=λ b G q=>by
   obtain⟨o,e,D⟩:=(T.rl.d8 b G).2.1
   rw[q]at e
   exact nn (j.symm.trans e)
  have gl:∀b,b∈c.z->(iD g c.z).get? b=none:=λ b G=>by rw[dn,aw (List.contains_iff_mem.mpr G)]
  have st:(iD g c.z).StaysIn s.heap:=λ b o h=>by
   rw[dn]at h
   split at h
   ·exact nn h
   ·exact M b o h
  have U:∀b o,g.get? b=some o->b∉c.z->(iD g c.z).get? b=some o:=λ b o e v=>by rw[dn,av λ q=>v (List.contains_iff_mem.mp q)];exact e
  unfold noteFrame
  simp only[I]
  refine ag (dW he rfl (show _=some Value.none from rfl) ?_)
  rw[av (show¬(Value.none !=Value.none)=true by decide)]
  refine aW λ r=>wpAny_entryW (base:=iD g c.z) n (nu T.rl nx (λ b o D e=>M b o e) gl p) I he st (by rw[dn];split<;>first|rfl|exact j) rfl (by simp) rfl λ h' hN z=>q h' ?_
  obtain⟨k1,k2,k3,k4⟩:=hN
  have n0:(iD g c.z).get? x=none:=by rw[dn];split<;>first|rfl|exact j
  exact⟨_,_,_,L,U,vw (s:=s) T.rl (λ b o e v=>⟨o.slots,M b o e⟩) k4,aa i z,k1,n0,k2,k3⟩
theorem D6(ok:bA J)(U:cM J pg){C:Nat}{x:Addr}{g:Heap}{gi:Nat}{Q:Flow->Shared->Prop}{h:Option (Nat×V)}{z:Str}{n p:Pos}{v:PySem.Stmt}(T:At J pg d k B Y A c {s with heap:=g} env)(f:GS c A env g C x s.heap)(j:pg.DC.contains C=true)(i:k.is z gi (SQ C)=true)(t:FJ k h v=true)(q:∀G s',Step J c {s with heap:=g} G s' (Own env)->G.Y=Y->At J pg d k (RP h B) Y A G s' env->Q .next s'):wpAny J.ax A (setFlight (.ref x) none) (λ D bx=>wpAny J.ax A (handleBy (.ref x) env [.ExceptHandler (some (.Name z n)) none [v] p]) Q E bx) E s:=by
 obtain⟨base,a0,l,L,kb,up,sz,hl⟩:=f
 obtain⟨nm,q',N,bs,hdct,sn,sub,ab,col,dd,k0,k1,k2,k3,k5,hC,hN,hi⟩:=U.exc C j
 have M:∀{h':Heap},base.StaysIn h'->(∀b o,g.get? b=some o->b∈c.z->∃sl,h'.get? b=some {o with slots:=sl})->g.objs.size<=h'.objs.size->Step J c {s with heap:=g} c {s with heap:=h'} cZ:=
  λ hs hu i=>T.rl.slots (s':={s with heap:=_}) (λ b o e nz=>hs b o (kb b o e nz)) hu i rfl rfl
 refine aW λ E'=>wpAny_landsW hl λ a w Np y=> ?_
 have I:=vw (s:=s) T.rl up Np
 have y:=aa sz (show s.heap.objs.size<=a.objs.size from y)
 have m:=M w.1 I y
 obtain⟨oe,he,Xl⟩:=w.there
 refine wpAny_handleBy_cons (codeAny_handlers_test (Lz U (T.step m) i λ vv yy hv r=> ?_)) (by intro q;exact Value.noConfusion q)
 rw[TH hv]at r
 rw[show yy= .ref C from r]
 refine wpAny_excMatches_sub_self (m.rel.K ok _ _ hC) he Xl F.excBase_ValueError.hasBase (codeAny_handlers_suite ?_)
 refine aW λ E'=>lands_againW w λ GA Nq Nr TJ=> ?_
 have u:=M Nq.1 (vw (s:=s) T.rl I Nr) (aa y (show a.objs.size<=GA.objs.size from TJ))
 have H:=T.step u
 rw[T.sg]at H
 exact Qo t H λ G s' S' e T'=>q G s' (u.bO.trans S') e T'
theorem Nt(ok:bA J)(N:cM J pg){a:List MS}(I:dh J pg d a)(g C:Nat)(h:Option (Nat×V)):cu J pg d (.Fp a g C h):=by
 intro k st Q B Y A E c s env y w T H hE
 refine FG (P:=λ st=>wpAny J.ax A (exec st env) (bc J pg d k A env c s Q) E s) y λ b L el fi p y=> ?_
 have i:=ao y
 have u:=ao i.1
 have M:=ao u.1
 rw[mw M.1,mw M.2]
 refine yA (P:=λ L=>wpAny J.ax A (exec (.Try b L [] [] p) env) (bc J pg d k A env c s Q) E s) i.2 λ o l=> ?_
 refine W2 (P:=λ o=>wpAny J.ax A (exec (.Try b [o] [] [] p) env) (bc J pg d k A env c s Q) E s) l λ z sd hp l=> ?_
 have l:=ao l
 refine bW (P:=λ z=>wpAny J.ax A (exec (.Try b [.ExceptHandler (some z) none [sd] hp] [] [] p) env) (bc J pg d k A env c s Q) E s) l.1 λ z zp hz=> ?_
 obtain⟨hx,D,w⟩:=w
 refine wpAny_Try_except (aV (I k b _ B Y A _ c s env u.2 w T H λ e s' t=> ?_) (λ f aq d9=> ?_) λ D D z=>z)
 ·obtain⟨x,C',c',bj,g',he,S,G,f,q⟩:=t
  obtain⟨rfl,q⟩:=q
  exact he▸GU G H f λ h' n=>D6 (s:={s' with heap:=h'}) ok N G n hx hz l.2 λ c₂ aT aN j gJ=>⟨c₂,RP h bj,.next,S.trans aN,by rw[j];exact gJ,rfl,by rw[j];exact q⟩
 ·obtain⟨c₁,U,fl,S,m,r,q⟩:=d9
  induction fl using Fl.casesOn with
  |next=>exact(show f= .next from r)▸nX ⟨c₁,U,.next,S,m,rfl,q⟩
  |brk=>exact(show f= .brk from r)▸⟨c₁,U,.brk,S,m,rfl,q⟩
  |cont=>exact(show f= .cont from r)▸⟨c₁,U,.cont,S,m,rfl,q⟩
  |ret v=>obtain⟨x,rfl,r⟩:=r;exact⟨c₁,U,.ret v,S,m,⟨x,rfl,r⟩,q⟩
  |exc C=>exact r.elim
theorem Nu:cu J pg d .dead:=by
 intro k st Q B Y A E c s env h w T H n
 exact w.elim
mutual
theorem Qq(ok:bA J)(c:cM J pg)(z:∀m,All J pg d m):∀m:MS,cu J pg d m
 | .assign ts e=>Gs ok c z ts e
 | .unpack ts e=>Gv ok c z ts e
 | .aug i op e=>P8 z i op e
 | .iX o j op e=>DY ok c z o j op e
 | .iY o j op e=>DZ ok c z o j op e
 | .dP t a b=>Ts z t (kJ ok c z a) (kJ ok c z b)
 | .u5 i e a b=>JT z i e (kJ ok c z a) (kJ ok c z b)
 | .ft t a b=>JU z t (kJ ok c z a) (kJ ok c z b)
 | .eR N it a=>Qb z N it (kJ ok c z a)
 | .oq i it a=>JY ok c z i it (kJ ok c z a)
 | .ret e=>P5 z e
 | .expr e=>Nl z e
 | .brk=>P6
 | .cont=>Nk
 | .iZ t=>Gx z t
 | .DB a=>Qa (kJ ok c z a)
 | .lW i st it y g=>D4 ok c z i st it y g
 | .m7 o i op e=>GO z o i op e
 | .se g C args=>J3 ok c z g C args
 | .lB o m args=>J2 ok c z o m args
 | .Fp a g C h=>Nt ok c (kJ ok c z a) g C h
 | .dead=>Nu
theorem kJ(ok:bA J)(e:cM J pg)(z:∀m,All J pg d m):∀ms:List MS,dh J pg d ms
 |[]=>JQ
 |m::ms=>Gn (Qq ok e z m) (kJ ok e z ms)
end
theorem stmts(ok:bA J)(e:cM J pg)(h:cF J)(ms:List MS):dh J pg d ms:=kJ ok e (all ok e h) ms
noncomputable abbrev fEnv(sc:Scope)(cl:List (Str×Addr))(L:Addr)(qual:Str)(f:Addr)(code:Value):Env:=newEnv sc L mainGlobals (cellsFrom (L+1) sc.names cl) qual (some f) code none builtinsNs
noncomputable abbrev jD:Obj:={cls:= .type "frame",data:= .dict #[]}
theorem J5(R:Rel J c s)(rm:ja d A)(sk:vZ A c)(gg:k.G=pg.G){sc:Scope}{cl:List (Str×Addr)}{qual:Str}{f:Addr}{code:Value}(Q:k.kd=sc.names)(OH:sc.kind= .function)(M:(sc.names.map (·.1)).Nodup)(sQ:∀x,(x,NameKind.free)∈sc.names->(cl.lookup x).isSome=true)(g:∀x a,cl.lookup x=some a->(x,NameKind.free)∈sc.names/\J.h₀.objs.size<=a/\¬c.T a/\a<s.heap.objs.size){B:ar}(t6:∀(x:Str)(i:Nat)(v:V),k.nm.lookup x=some i->B[i]? =some v->v= .aF\/((x,NameKind.free)∈sc.names/\∃a u,cl.lookup x=some a/\s.heap.IsCell a (some u)/\aD c s.heap v u)):∃ys,(∀b∈ys,s.heap.objs.size<=b)/\Step J c s (c.mN ys [s.heap.objs.size]) {s with heap:=pushCells (s.heap.push jD) sc.names} cZ/\At J pg d k B c.Y A (c.mN ys [s.heap.objs.size]) {s with heap:=pushCells (s.heap.push jD) sc.names} (fEnv sc cl s.heap.objs.size qual f code)/\(∀b,Own (fEnv sc cl s.heap.objs.size qual f code) b->s.heap.objs.size<=b)/\(∀b,Own (fEnv sc cl s.heap.objs.size qual f code) b->b=s.heap.objs.size\/b∈ys):=by
 have ok:=cellsFrom_ok sc.names (s.heap.push jD) (s.heap.objs.size+1) [] ⟨λ D D hm=>(nomatch hm),List.Pairwise.nil⟩ (by rw[cf];exact ai _)
 rw[cf]at ok
 generalize l:pushCells (s.heap.push jD) sc.names=H at ok
 have jC:∀b o,s.heap.get? b=some o->H.get? b=some o:=λ b o e=>l▸pushCells_keeps _ _ b o (bt _ e)
 have T:H.get? s.heap.objs.size=some jD:=l▸pushCells_keeps _ _ _ _ (bM _ rfl)
 have hsz:s.heap.objs.size<=H.objs.size:=dG (cD T)
 have L:∀x a,(cellsFrom (s.heap.objs.size+1) sc.names []).lookup x=some a->H.IsCell a none/\s.heap.objs.size<a/\(x,NameKind.cell)∈sc.names:=λ x a h=>⟨(ok.empty x a (lookup_mem h)).1,(ok.empty x a (lookup_mem h)).2,(lG (lookup_mem h)).1⟩
 let ys:=(cellsFrom (s.heap.objs.size+1) sc.names []).map (·.2)
 have w:∀b∈ys,s.heap.objs.size<b/\b<H.objs.size:=λ b U=>by
  obtain⟨⟨x,a⟩,hp,rfl⟩:=cQ.mp U
  exact⟨(ok.empty x a hp).2,(ok.empty x a hp).1.lt⟩
 have S:Step J c s (c.mN ys [s.heap.objs.size]) {s with heap:=H} cZ:=R.yd ys [s.heap.objs.size] jC hsz rfl rfl (λ b U=>⟨dG (w b U).1,(w b U).2⟩) λ b U=>by
  refine(cR.mp U).symm▸?_
  exact⟨ai _,λ q=>d0 _ (w _ q).1,_,T,nofun⟩
 have mR:∀x a,(fEnv sc cl s.heap.objs.size qual f code).cells.lookup x=some a->(a∈ys/\s.heap.objs.size<a/\(x,NameKind.cell)∈sc.names/\(x,a)∈cellsFrom (s.heap.objs.size+1) sc.names [])\/cl.lookup x=some a:=λ x a h=>by
  have h:(cellsFrom (s.heap.objs.size+1) sc.names cl).lookup x=some a:=h
  rw[fW]at h
  cases q:(cellsFrom (s.heap.objs.size+1) sc.names []).lookup x with
  |some b=>
   rw[q]at h
   rw[aM h]at q
   exact .inl ⟨cQ.mpr ⟨(x,a),lookup_mem q,rfl⟩,(L x a q).2.1,(L x a q).2.2,lookup_mem q⟩
  |none=>
   rw[q]at h
   exact .inr h
 have G:∀{x kd},(fEnv sc cl s.heap.objs.size qual f code).kindOf x=some kd->(x,kd)∈sc.names:=λ h=>lookup_mem h
 have E:∀x a,(fEnv sc cl s.heap.objs.size qual f code).kindOf x=some .cell->(fEnv sc cl s.heap.objs.size qual f code).cells.lookup x=some a->a∈ys/\s.heap.objs.size<a/\(x,a)∈cellsFrom (s.heap.objs.size+1) sc.names []:=λ x a C N=>by
  rcases mR x a N with q|q
  ·exact⟨q.1,q.2.1,q.2.2.2⟩
  ·have:=(bf M (G C)).symm.trans (bf M (g x a q).1);exact Option.noConfusion rfl (heq_of_eq this) (λ e=>NameKind.noConfusion (eq_of_heq e))
 have m:∀x,(x,NameKind.free)∈sc.names->(fEnv sc cl s.heap.objs.size qual f code).cells.lookup x=cl.lookup x:=λ x h=>by
  refine(?_:(cellsFrom (s.heap.objs.size+1) sc.names cl).lookup x=_)
  rw[fW,wK (λ q=>by have:=(bf M q).symm.trans (bf M h);exact Option.noConfusion rfl (heq_of_eq this) (λ e=>NameKind.noConfusion (eq_of_heq e)))]
  rfl
 have j:∀b,Own (fEnv sc cl s.heap.objs.size qual f code) b->b=s.heap.objs.size\/b∈ys:=λ b U=>by
  rcases U with rfl|⟨x,C,N⟩
  ·exact .inl rfl
  ·exact .inr (E x b C N).1
 refine⟨ys,λ b U=>dG (w b U).1,S,⟨rm,rfl,S.rel,⟨OH,rfl,rfl,⟨?_,?_,?_,?_⟩,?_,?_,?_⟩,⟨?_,?_,?_,?_,?_⟩,?_,gg,sk.step S⟩,λ b U=> ?_,j⟩
 ·exact⟨jD,#[],0,T,rfl,λ e he=>by simp at he⟩
 ·intro x I
  obtain⟨a,p⟩:=uL.mp (F7 (n:=s.heap.objs.size+1) (G I))
  refine⟨a,none,?_,(L x a p).1,Nat.ne_of_gt (L x a p).2.1⟩
  refine(?_:(cellsFrom (s.heap.objs.size+1) sc.names cl).lookup x=some a)
  rw[fW,p];rfl
 ·intro x y a I r S8 S9
  exact name_of_addr ok.apart (E x a I S8).2.2 (E y a r S9).2.2
 ·intro y a r N ho
  have hm:=G r
  rw[m y hm]at N
  have fJ:=(g y a N).2.2.2
  rcases j a ho with rfl|z
  ·exact d0 _ fJ
  ·exact Nat.lt_asymm fJ (w a z).1
 ·intro b U
  rcases j b U with rfl|z
  ·exact .inr (dZ.mpr (.inl (by exact List.mem_cons_self)))
  ·exact .inl (dZ.mpr (.inl z))
 ·intro x a N
  rcases mR x a N with q|q
  ·exact⟨aa R.size (dG q.2.1),λ t=>absurd (R.high a t).2 (aC (dG q.2.1)),(w a q.1).2⟩
  ·exact⟨(g x a q).2.1,λ t=>(g x a q).2.2.1 t,ah (g x a q).2.2.2 hsz⟩
 ·intro x I
  exact m x (G I)▸sQ x (G I)
 ·intro x h;rw[Q]at h;exact h
 ·intro x h;rw[Q]at h;exact h
 ·intro x h;rw[Q]at h;exact h
 ·intro x h;rw[Q]at h;exact h
 ·intro x h;rw[Q]at h;exact .inl h
 ·intro x i v N C hi
  rcases t6 x i v N hi with z|⟨z1,a,u,z2,z3,z4⟩
  ·exact .inl z
  ·refine .inr ⟨u,.inr ⟨.inr (bf M z1),a,(m x z1).trans z2,z3.keeps jC⟩,z4.carry S.carry⟩
 ·rcases j b U with rfl|z
  ·exact ai _
  ·exact dG (w b z).1
structure FnAt(J:Cx)(fa:Addr)(fd:FuncData)(body:List PySem.Stmt):Prop where
 lk:∃o,J.K.lookup fa=some o/\o.data= .func fd
 co:fd.scope.isCoroutine=false
 gen:fd.scope.isGenerator=false
 bd:fd.body= .stmts body
 gl:fd.globals=mainGlobals
 bu:fd.builtins=builtinsNs
 cl:fd.closure=[]
 kf:fd.scope.kind= .function
 nd:(fd.scope.names.map (·.1)).Nodup
 nf:∀x,(x,NameKind.free)∉fd.scope.names
 cr:∀c s,Rel J c s->s.heap.CodeRec fd.code fd.qualname
noncomputable def jE(c:Vw)(h:Heap):List (Str×V)->List (Str×Value)->Prop
 |[],[]=>True
 |(n,v)::vs,(m,x)::xs=>n=m/\aD c h v x/\jE c h vs xs
 |_,_=>False
theorem jE.carry{c G:Vw}{h h':Heap}(k:Carry c h G h'){vs:List (Str×V)}{xs:List (Str×Value)}(r:jE c h vs xs):jE G h' vs xs:=by
 induction vs generalizing xs with
 |nil=>induction xs using List.casesOn with
  |nil=>trivial
  |cons=>exact r.elim
 |cons v vs y=>induction xs using List.casesOn with
  |nil=>exact r.elim
  |cons x xs=>exact⟨r.1,r.2.1.carry k,y r.2.2⟩
inductive LB(J:Cx)(c:Vw)(s:Shared)(Y:Mem)(vals:List (Str×V))(bs:List (Str×Value))(aq:Shared):Prop
 |mk (c₁:Vw) (S:Step J c s c₁ aq cZ) (e:c₁.Y=Y) (b:jE c₁ aq.heap vals bs):LB J c s Y vals bs aq
noncomputable def i3(k:CC)(B:ar):List (Str×V)->ar
 |[]=>B
 |(x,v)::r=>i3 k (match k.nm.lookup x with
  |some i=>B.set i v
  |none=>B) r
noncomputable def jg(k:CC)(xs:List Str):Bool:=xs.all λ x=>match k.nm.lookup x with
 |some i=>k.gR x i
 |none=>false
noncomputable def dg(Q:eY):Fl->ar->Mem->Prop
 | .next,_,Y=>Q .none Y
 | .ret v,_,Y=>Q v Y
 |_,_,_=>False
theorem GW{Q:PUnit->Shared->Prop}(vals:List (Str×V))(bs:List (Str×Value))(B:ar)(Y:Mem)(c:Vw)(s:Shared)(T:At J pg d k B Y A c s env)(H:jg k (vals.map (·.1))=true)(r:jE c s.heap vals bs)(q:∀s',Step J c s c s' (Own env)->At J pg d k (i3 k B vals) Y A c s' env->Q PUnit.unit s'):wpAny J.ax A (forIn bs PUnit.unit λ(x:Str×Value) (D:PUnit)=>storeName env x.1 x.2>>=λ D=>pure (ForInStep.yield PUnit.unit)) Q E s:=by
 induction vals generalizing bs B s with
 |nil=>induction bs using List.casesOn with
  |nil=>
   rw[List.forIn_nil]
   exact aA (q s (.refl T.rl) T)
  |cons=>exact r.elim
 |cons a vs y=>induction bs using List.casesOn with
  |nil=>exact r.elim
  |cons e bs=>
   obtain⟨n,v⟩:=a
   obtain⟨m,x⟩:=e
   have H:=ao H
   have M:(match k.nm.lookup n with|some i=>k.gR n i|none=>false)=true:=H.1
   have q:∀s',Step J c s c s' (Own env)->At J pg d k (i3 k (match k.nm.lookup n with|some i=>B.set i v|none=>B) vs) Y A c s' env->Q PUnit.unit s':=q
   rw[mE,<-show n=m from r.1]
   generalize k.nm.lookup n=o at M q
   induction o using Option.casesOn with
   |none=>exact nf M
   |some i=>exact ag (ag (dI T M r.2.1 λ p l w=>aA (y bs _ p w H.2 (r.2.2.carry l.carry) λ h U L=>q h ((l.mono λ b G=>G.own).trans U) L)))
theorem mf{fa:Addr}{o:Obj}{v:FuncData}(E:s.heap.get? fa=some o)(hd:o.data= .func v):Looks J.ax s.heap (keeperOf (.ref fa)) .frame:=by
 refine(Looks.ld (part:=none) E).andThen ?_
 exact hd▸.now
inductive rC(J:Cx)(pg:Pg)(d:Nat)(k:CC)(Y:Mem)(B:ar)(sc:Scope)(cl:List (Str×Addr))(qual:Str)(f:Addr)(code:Value)(A:Around)(c:Vw)(s:Shared)(env:Env)(b7:Vw)(bx:Shared):Prop
 |mk (L:Addr) (hE:env=fEnv sc cl L qual f code) (hL:s.heap.objs.size<=L) (S:Step J c s b7 bx (λ b=>s.heap.objs.size<=b)) (T:At J pg d k B Y (A.deeper env) b7 bx env) (tp:Top (A.deeper env) env) (own:∀b,Own env b->s.heap.objs.size<=b) (zL:L∈b7.z) (ow:∀b,Own env b->b=L\/b∈b7.y):rC J pg d k Y B sc cl qual f code A c s env b7 bx
theorem GX{L:Addr}(b:vZ A c)(H:env.scope.kind= .function)(r:env.frame=some L)(i:L∈c.z):vZ (A.deeper env) c/\Top (A.deeper env) env:=by
 obtain⟨l,N,E⟩:=b
 have e:(A.deeper env).frames=some (env::l):=by refine(?_:A.frames.map _=_);refine N.symm▸?_;rfl
 exact⟨⟨env::l,e,λ e he=>(bg.mp he).elim (λ q=>by exact q▸⟨by refine H.symm▸?_;nofun,L,r,i⟩) (E e)⟩,l,e⟩
theorem enter(ok:bA J){c c₁:Vw}{s p:Shared}(R:Rel J c s)(h:ja (d+1) A)(L:vZ A c)(l:Step J c s c₁ p cZ)(j:c₁.Y=Y){sc:Scope}{cl:List (Str×Addr)}{vals:List (Str×V)}{bs:List (Str×Value)}(C:jE c₁ p.heap vals bs)(t:k.G=pg.G)(m:k.kd=sc.names)(w:sc.kind= .function)(n:(sc.names.map (·.1)).Nodup)(r:∀x,(x,NameKind.free)∈sc.names->(cl.lookup x).isSome=true)(x6:∀x a,cl.lookup x=some a->(x,NameKind.free)∈sc.names/\J.h₀.objs.size<=a/\¬c₁.T a/\a<p.heap.objs.size){B:ar}(t6:∀(x:Str)(i:Nat)(v:V),k.nm.lookup x=some i->B[i]? =some v->v= .aF\/((x,NameKind.free)∈sc.names/\∃a u,cl.lookup x=some a/\p.heap.IsCell a (some u)/\aD c₁ p.heap v u))(hp:jg k (vals.map (·.1))=true){qual:Str}{f:Addr}{code:Value}{body:List PySem.Stmt}{o:Result->Shared->Prop}{E:dR}(g:∀env b7 Q,rC J pg d k Y (i3 k B vals) sc cl qual f code A c s env b7 Q->wpAny J.ax (A.deeper env) (execs body env) (λ f s'=>o (.ok (.ret (match f with| .ret v=>v|_=> .none))) s') (λ e s'=>wpAny J.ax (A.deeper env) (leaving env e) (λ D T=>o (.error e) T) (λ e' T=>o (.error e') T) s') Q):wpAny J.ax A.in1 (newFunctionEnv sc mainGlobals cl bs qual (some f) code none builtinsNs) (λ env M=>M.heap.NoLimit/\codeAny J.ax A (.func body env) o M) E p:=by
 obtain⟨ys,mz,N,gJ,I,Qr⟩:=J5 (d:=d) (pg:=pg) (k:=k) (A:=A.in1) (qual:=qual) (f:=f) (code:=code) (B:=B) l.rel h.in1 (L.in1.step l) t m w n r x6 t6
 refine sO (GW vals bs _ _ _ _ gJ hp (C.carry N.carry) λ Q y G=>⟨y.rel.lim ok,codeAny_func (g _ (c₁.mN ys [p.heap.objs.size]) Q ?_)⟩)
 rw[j]at G
 have H:p.heap.objs.size∈(c₁.mN ys [p.heap.objs.size]).z:= .head _
 have z:=GX (env:=fEnv sc cl p.heap.objs.size qual f code) (show vZ A (c₁.mN ys [p.heap.objs.size]) from G.sk) w rfl H
 exact⟨p.heap.objs.size,rfl,l.size,(l.bO.trans N.bO).trans (y.mono λ b U=>aa l.size (I b U)),⟨h.deeper _,G.sg,G.rl,G.en,G.kd,G.fv,G.gg,z.1⟩,z.2,λ b U=>aa l.size (I b U),H,λ b U=>(Qr b U).imp id λ q=>gP _ q⟩
noncomputable def Qs(f:Flow):Value:=match f with
 | .ret v=>v
 |_=> .none
theorem Bf{sc:Scope}{cl:List (Str×Addr)}{qual:Str}{fa:Addr}{code:Value}{c H:Vw}{s i s':Shared}{f:Flow}(R:Rel J c s)(a:rC J pg d k Y B sc cl qual fa code A c s env H i)(h:bc J pg d k (A.deeper env) env H i (dg Q) f s'):Fv J c s Q (.ok (.ret (Qs f))) s':=by
 obtain⟨l,y,e,E,t,r,q⟩:=h
 obtain⟨L,D,D,S,D,D,own,D,D⟩:=a
 have j:Step J c s l s' cZ:=Step.freshen R (S.trans (E.mono own)) λ b U=> .inr U
 induction e using Fl.casesOn with
 |next=>exact(show f= .next from r)▸⟨.none,l,.none,rfl,j,rfl,q⟩
 |ret v=>obtain⟨x,rfl,r⟩:=r;exact⟨x,l,v,rfl,j,r,q⟩
 |_=>exact q.elim
theorem Bg{n i:Nat}{v:V}(h:(List.replicate n V.aF)[i]? =some v):v= .aF:=(List.mem_replicate.mp (vT h)).2
theorem w7(ok:bA J)(G:cM J pg)(N:cF J){fa:Nat}{b:FuncData}{body:List PySem.Stmt}(F:FnAt J fa b body)(H:k.kd=b.scope.names)(r:k.G=pg.G){ms:List MS}(C:fQ k ms body=true){args:ar}{ns:List Str}{kws:ar}{Q:eY}{Y:Mem}(n:Nat)(vals:List (Str×V))(I:∀(A:Around)(E:dR) c s xs ks,Rel J c s->c.Y=Y->ay c s.heap args xs->c8 c s.heap ns kws ks->wpAny J.ax A (bindArgs b ⟨xs,ks⟩) (LB J c s Y vals) E s)(hp:jg k (vals.map (·.1))=true)(w:wSs J pg d ms (dg Q) (i3 k (List.replicate n .aF) vals) Y):aH J (d+1) (.glob fa) args ns kws Q Y:=by
 intro A c s u xs ks U y j R g m l
 refine(show u= .ref fa from g).symm▸?_
 obtain⟨o,q,hd⟩:=F.lk
 have p:=R.K ok fa o q
 refine⟨⟨.frame,mf p hd⟩,codeAny_call_function (b9 (au ..) (gQ U.2.1 (by decide))) p hd F.co F.gen F.bd (F.cr c s R) (aV (I A.in1 _ c s xs ks R j m l) (λ bs aq h=> ?_) λ D D z=>z)⟩
 obtain⟨c₁,cU,ny,br⟩:=h
 refine F.gl.symm▸F.bu.symm▸F.cl.symm▸?_
 refine enter (cl:=[]) (B:=List.replicate n .aF) ok R U y cU ny br r H F.kf F.nd (λ x h=>absurd h (F.nf x)) (λ x a h=>nn h) (λ x i v D h=> .inl (Bg h)) hp λ env b7 bx M=> ?_
 obtain⟨L,hE,hL,S,T,tp,own,zL,ow⟩:=id M
 exact aV (stmts ok G N ms k body (dg Q) _ Y _ _ _ bx _ C w T tp λ e s' t=>t.none λ D D D h=>h) (λ f kT fy=>Bf R M fy) λ D D z=>z
noncomputable def J6(Q:eY)(X:Nat->Mem->Prop):Fl->ar->Mem->Prop
 | .next,_,Y=>Q .none Y
 | .ret v,_,Y=>Q v Y
 | .exc C,_,Y=>X C Y
 |_,_,_=>False
theorem D7{sc:Scope}{cl:List (Str×Addr)}{qual:Str}{fa:Addr}{code:Value}{c H:Vw}{s u s':Shared}{X:Nat->Mem->Prop}{e:Value}(R:Rel J c s)(sk:vZ A c)(En:rC J pg d k Y B sc cl qual fa code A c s env H u)(t:j3 J pg d k (A.deeper env) env H u (λ C D Y=>X C Y) e s'):wpAny J.ax (A.deeper env) (leaving env e) (λ D IS=>B0 J A c s Q X (.error e) IS) E s':=by
 obtain⟨x,C,G,bj,g,rfl,S',i,f,q⟩:=t
 obtain⟨L,D,D,S,D,D,own,D,D⟩:=En
 have j:Step J c s G {s' with heap:=g} cZ:=Step.freshen R (S.trans (S'.mono own)) λ b U=> .inr U
 obtain⟨l,N,D⟩:=sk
 have n:(A.deeper env).frames=some (env::l):=by refine(?_:A.frames.map _=_);refine N.symm▸?_;rfl
 obtain⟨Yu,y,w⟩:=i.sk
 rw[n]at y
 obtain rfl:=aM y
 obtain⟨VH,L,T,R0⟩:=w env (.head _)
 induction f with
 |To f=>
  obtain⟨base,a0,I,up,v,fl⟩:=f
  exact aW λ E'=>wpAny_leaves_onW n T (fl _ n) λ h' r a z=> .exc x C G g rfl j ⟨base,a0,I,vw i.rl up a,aa v z,λ l' p=>by rw[N]at p;exact aM p▸r⟩ q
 |made args m v=>
  obtain⟨kp,nw,t,he,Xj,Xk⟩:=id m
  have nx:∀b∈G.z,b≠x:=λ b U q=>by
   obtain⟨o,e,D⟩:=(i.rl.d8 b U).2.1
   rw[q]at e
   exact nn (nw.symm.trans e)
  have gl:∀b,b∈G.z->(iD g G.z).get? b=none:=λ b U=>by rw[dn,aw (List.contains_iff_mem.mpr U)]
  have st:(iD g G.z).StaysIn g:=λ b o M=>by
   rw[dn]at M
   split at M
   ·exact nn M
   ·exact M
  have I:∀b o,g.get? b=some o->b∉G.z->(iD g G.z).get? b=some o:=λ b o e hz=>by rw[dn,av λ q=>hz (List.contains_iff_mem.mp q)];exact e
  exact aW λ E'=>wpAny_leaves_madeW (base:=iD g G.z) (h:=g) n T st (nu i.rl nx (λ b o D e=>e) gl w) m λ h' t' r D D a z=> .exc x C G g rfl j ⟨_,_,I,vw (s:=s') i.rl (λ b o e hz=>⟨o.slots,kp b o e⟩) a,aa v z,λ l' p=>by rw[N]at p;exact aM p▸r⟩ q
theorem GZ(ok:bA J)(I:cM J pg)(u:cF J){fa:Nat}{b:FuncData}{body:List PySem.Stmt}(F:FnAt J fa b body)(H:k.kd=b.scope.names)(l:k.G=pg.G){ms:List MS}(C:fQ k ms body=true){args:ar}{Q:eY}{X:Nat->Mem->Prop}{Y:Mem}(n:Nat)(vals:List (Str×V))(y:∀(A:Around)(E:dR) c s xs ks,Rel J c s->c.Y=Y->ay c s.heap args xs->c8 c s.heap [] [] ks->wpAny J.ax A (bindArgs b ⟨xs,ks⟩) (LB J c s Y vals) E s)(hp:jg k (vals.map (·.1))=true)(w:wSs J pg d ms (J6 Q X) (i3 k (List.replicate n .aF) vals) Y):sr J (d+1) (.glob fa) args Q X Y:=by
 intro A c s g xs M G j R m ra
 refine(show g= .ref fa from m).symm▸?_
 obtain⟨o,BS,hd⟩:=F.lk
 have p:=R.K ok fa o BS
 refine⟨⟨.frame,mf p hd⟩,codeAny_call_function (b9 (au ..) (gQ M.2.1 (by decide))) p hd F.co F.gen F.bd (F.cr c s R) (aV (y A.in1 _ c s xs [] R j ra trivial) (λ bs aq h=> ?_) λ D D z=>z)⟩
 obtain⟨c₁,cU,ny,br⟩:=h
 refine F.gl.symm▸F.bu.symm▸F.cl.symm▸?_
 refine enter (cl:=[]) (B:=List.replicate n .aF) ok R M G cU ny br l H F.kf F.nd (λ x h=>absurd h (F.nf x)) (λ x a h=>nn h) (λ x i v D h=> .inl (Bg h)) hp λ env b7 bx U=> ?_
 obtain⟨L,hE,hL,S,T,tp,own,zL,ow⟩:=id U
 refine aV (stmts ok I u ms k body (J6 Q X) _ Y _ _ _ bx _ C w T tp λ e s' t=>D7 R G U t) (λ f kT fy=> .ok (Bf R U ?_)) λ D D z=>z
 obtain⟨je,GY,N,eC,pS,r,q⟩:=fy
 exact⟨je,GY,N,eC,pS,r,by induction N using Fl.casesOn<;>first|exact r.elim|exact q⟩
theorem qH(is:List Int):∀k,preSum (λ i=>is.getD i 0) k=(is.take k).sum
 |0=>rfl
 |k+1=>by
  refine(?_:preSum (λ i=>is.getD i 0) k+is.getD k 0=_)
  refine(qH is k).symm▸?_
  by_cases h:k<is.length
  ·rw[List.take_add_one,List.sum_append,jr h]
   simp[h]
  ·have M:is.take k=is:=List.take_of_length_le (by exact Nat.not_lt.mp ‹_›)
   have u:is.take (k+1)=is:=List.take_of_length_le (by omega)
   refine M.symm▸u.symm▸?_
   simp[h]
theorem ints_cons{v:V}{vs:ar}{is:List Int}(h:intsOf (v::vs)=some is):∃j js,v= .int j/\is=j::js/\intsOf vs=some js:=by
 induction v using V.casesOn with
 |int j=>obtain⟨js,M,rfl⟩:=cB.mp (show(intsOf vs).map (j::·)=some is from h);exact⟨j,js,rfl,rfl,M⟩
 |_=>exact nn h
theorem td{vs:ar}{is:List Int}{g:aL}(M:intsOf vs=some is)(r:ay c h vs g):is.length=g.length/\∀(i:Nat) x,g[i]? =some x->∃t,x= .int (is.getD i 0) t:=by
 induction vs generalizing is g with
 |nil=>induction g using List.casesOn with
  |nil=>exact aM M▸⟨rfl,λ i x e=>nn e⟩
  |cons=>exact r.elim
 |cons v vs T=>induction g using List.casesOn with
  |nil=>exact r.elim
  |cons x xs=>
   obtain⟨j,js,rfl,rfl,e⟩:=ints_cons M
   obtain⟨l,Q⟩:=T e r.2
   refine⟨aE (·+1) l,λ i y A=> ?_⟩
   induction i using Nat.casesOn with
   |zero=>exact aM A▸r.1
   |succ i=>exact Q i y A
theorem Rel.heap(R:Rel J c s){s':Shared}(H:∀b o,s.heap.get? b=some o->s'.heap.get? b=some o)(L:s.heap.objs.size<=s'.heap.objs.size)(U:s'.gens=s.gens)(E:s'.os=s.os):Step J c s c s' cZ:=R.other cZ (λ b o e D=>H b o e) (λ D h=>h.elim) L U E
theorem G0(R:Rel J c s)(l:A.handled=none){v:V}{x:Value}{vs:ar}{is:List Int}(r:aD c s.heap v x)(j:bS c.Y v=some vs)(hi:intsOf vs=some is)(q:Q (.int is.sum) c.Y):bL J A E c s (call (.builtin "sum") [x]) Q:=by
 obtain⟨a,T,rfl,h,m⟩:=dk R r j
 obtain⟨N,G⟩:=td hi m
 have M:a<s.heap.objs.size:=by obtain⟨n,e⟩:=h;exact cD e
 refine aW λ u=>call_sum_walkAnyS (wpAny_pyIter_list h.isList ?_)
 have d:(s.heap.push {cls:= .type "list_iterator",data:= .fields #[.ref a,.int 0 0]}).objs.size=s.heap.objs.size+1:=cf ..
 refine⟨s.heap.objs.size,_,_,_,T.toArray.size,_,_,λ i=>is.getD i 0,rfl,(Walks.list (prog:=J.prog) (w:=J.w) (A:=A.in1) l s.heap.objs.size a (az M) T.toArray).toS,⟨⟨_,bM _ rfl,rfl,rfl⟩,h.isList.push _⟩,λ b U=> ?_,λ i x I=>G i x (by exact ib.symm.trans I),λ s' t g L=> ?_⟩
 ·refine(?_:b<(Heap.push _ _).objs.size)
  refine d.symm▸?_
  simp only[bg,dt,or_false]at U
  rcases U with rfl|rfl
  ·exact bF _
  ·exact gO M
 ·have S:Step J c s c s' cZ:=R.heap (λ b o e=>g.heap b o (by simpa using az (cD e)) (bt _ e)) L g.gens g.os
  refine⟨c,.int is.sum,S,⟨t,?_⟩,q⟩
  rw[qH]
  exact cA.symm▸N▸List.take_length.symm▸rfl
theorem G1(R:Rel J c s){i:Int}{t:Tok}(q:Q (.int i) c.Y):bL J A E c s (call (.type "int") [.int i t]) Q:=call_int_int ⟨c,.int i,.refl R,⟨t,rfl⟩,q⟩
theorem G2(ok:bA J)(R:Rel J c s){v:V}{x:Value}{n:Nat}(r:aD c s.heap v x)(h:Jb c.Y v=some n)(w:n<=1000000)(q:Q (.int n) c.Y):bL J A E c s (call (.builtin "len") [x]) Q:=by
 have b:∀{a g},SeqAt s.heap "list" a g->g.length=n->bL J A E c s (call (.builtin "len") [.ref a]) Q:=λ{a g} U N=>Calls.call_len_list U.isList (by refine cA.symm▸N.symm▸?_;exact Int.lt_of_le_of_lt (gq.mpr w) (by decide)) ⟨c,.int n,Step.toks R _,⟨_,by rw[cA,N]⟩,q⟩
 induction v using Mine.V.casesOn with
 |str l=>
  obtain⟨t,rfl⟩:=r
  obtain rfl:=aM h
  exact call_len_gives (T:="str") rfl F.slot_str_len F.entry_str_len (F.args_str_len_1 _) (gives_str_len _ _) (by omega) (by rw[aU];omega) ⟨c,.int l.length,Step.toks R _,⟨_,by rw[aU]⟩,q⟩
 |list vs=>obtain⟨a,g,rfl,U,D,m⟩:=r;obtain rfl:=aM h;exact b U m.length.symm
 |ref i=>
  have h:Fq (c.Y.f i)=some n:=h
  induction e:c.Y.f i using O.casesOn with
  |list vs=>
   obtain⟨a,g,rfl,U,m⟩:=dk R r (show bS c.Y (.ref i)=some vs by refine(?_:(c.Y.f i).fq=_);refine e.symm▸?_;rfl)
   rw[e]at h
   exact b U (m.length.symm.trans (aM h))
  |dict bC ep=>
   obtain⟨hi,rfl⟩:=r
   have o:=R.obj i hi
   rw[e]at o h
   obtain⟨f1,M,G,r1⟩:=o
   have I:(c.ρ i==sysModules)=false:=kA.mpr λ q=>aC (R.high _ (Rel.di ⟨hi,λ u=>nomatch e.symm.trans u⟩ (by exact f1▸.head _))).1 (q▸ok.sys)
   have N:M.length=n:=r1.vals.1.symm.trans (aM h)
   exact call_len_dict I G.dictOf (by refine N.symm▸?_;exact Int.lt_of_le_of_lt (gq.mpr w) (by decide)) ⟨c,.int n,Step.toks R _,⟨_,by rw[N]⟩,q⟩
  |_=>rw[e]at h;exact nn h
 |tuple vs=>
  obtain⟨a,g,rfl,⟨k,e⟩,D,m⟩:=r
  obtain rfl:=aM h
  have N:g.length=vs.length:=m.length.symm
  exact P.len_tuple e (by refine cA.symm▸N.symm▸?_;omega) ⟨c,.int vs.length,Step.toks R _,⟨_,by rw[cA,N]⟩,q⟩
 |bytes l=>
  obtain⟨D,t,rfl⟩:=r
  obtain rfl:=aM h
  have N:(bP l).size=l.length:=by exact aX _
  exact len_bytes (by refine N.symm▸?_;exact aa w (by decide)) ⟨c,.int l.length,Step.toks R _,⟨_,by rw[N]⟩,q⟩
 |_=>first|exact nf h|exact nn h|subst h
theorem D8(R:Rel J c s){v:V}{x:Value}{t:Ty}(r:aD c s.heap v x)(h:K2 v=some t)(q:Q (.ty t) c.Y):bL J A E c s (call (.type "type") [x]) Q:=by
 induction v using Mine.V.casesOn with
 |str l=>obtain⟨u,rfl⟩:=r;obtain rfl:=aM h;exact call_type_of (Tx:="str") rfl (by decide) ⟨c,.ty .str,.refl R,rfl,q⟩
 |bytes l=>obtain⟨D,u,rfl⟩:=r;obtain rfl:=aM h;exact call_type_of (Tx:="bytes") rfl (by decide) ⟨c,.ty .bytes,.refl R,rfl,q⟩
 |bool b=>have r:x= .bool b:=r;subst r;obtain rfl:=aM h;exact call_type_of (Tx:="bool") rfl (by decide) ⟨c,.ty .bool,.refl R,rfl,q⟩
 |int i=>obtain⟨u,rfl⟩:=r;obtain rfl:=aM h;exact call_type_of (Tx:="int") rfl (by decide) ⟨c,.ty .int,.refl R,rfl,q⟩
 |_=>first|exact nf h|exact nn h|subst h
theorem mB(l:Addr):Meets (Builtin.«bool.__new__» ⟨[.type "bool",.ref l],[]⟩) (λ D R s=>∃items,s.heap.IsList l items/\(items.size:Int)<2^63/\R (.ok (.ret (.bool (!items.isEmpty)))) {s with toks:=s.toks+1+1}):=Meets.of_wp λ prog w A R s L=>by
  obtain⟨hp,g,d,tk,os⟩:=s
  obtain⟨items,N,r,L⟩:=L
  have f1:=F.conv_sub_bool
  repeat(any_goals (first|assumption|(with_reducible refine wpAny_truthy_list N r ?_)|wp_step))
  all_goals first|exact⟨_,rfl,L⟩|exact L|skip
theorem D9(R:Rel J c s){v:V}{x:Value}{b:Bool}(r:aD c s.heap v x)(h:b6 c.Y v=some b)(q:Q (.bool b) c.Y):bL J A E c s (call (.type "bool") [x]) Q:=by
 have lst:(∃vs,bS c.Y v=some vs/\vs.length<=1000000/\b= !vs.isEmpty)->bL J A E c s (call (.type "bool") [x]) Q:=by
  rintro⟨vs,e,I,rfl⟩
  obtain⟨a,g,rfl,U,N⟩:=dk R r e
  have:g.toArray.isEmpty=vs.isEmpty:=by induction vs<;>induction g<;>first|rfl|exact N.elim
  exact call_bool_1 (mB a) ⟨_,U.isList,by refine cA.symm▸N.length▸?_;exact Int.lt_of_le_of_lt (gq.mpr I) (by decide),rfl,c,.bool (!vs.isEmpty),Step.toks R _,by refine this.symm▸?_;rfl,q⟩
 induction v using Mine.V.casesOn with
 |bool T=>cases h;refine r.symm▸?_;exact call_bool_bool ⟨c,.bool b,.refl R,rfl,q⟩
 |int i=>obtain rfl:=aM h;obtain⟨t,rfl⟩:=r;exact call_bool_int ⟨c,.bool (i !=0),.refl R,rfl,q⟩
 |none=>obtain rfl:=aM h;exact r▸call_bool_none ⟨c,.bool false,.refl R,rfl,q⟩
 |str y=>
  obtain⟨t,rfl⟩:=r
  obtain⟨M,u⟩:=bl h
  have M:=ae M
  refine call_bool_str (by rw[aU];omega) ⟨c,.bool b,Step.toks R _,?_,q⟩
  rw[aU]
  have:((y.length:Int)!=0)=b:=by
   refine u▸?_;induction y with
   |nil=>rfl
   |cons a l=>simp;omega
  refine this.symm▸?_;rfl
 |list vs=>exact lst (iV h)
 |ref i=>exact lst (iV h)
 |_=>first|exact nf h|exact nn h|subst h
theorem G3(R:Rel J c s)(q:Q (.ref c.Y.n) (c.Y.alloc (.set []))):bL J A E c s (call (.type "set") []) Q:=by
 refine call_set_0 λ led=> ?_
 have d:(s.heap.push {cls:= .type "set",dict:=none,data:= .set #[] 0 (.fresh 0 0 led)}).objs.size=s.heap.objs.size+1:=cf ..
 have S:=R.new (s':={s with heap:=s.heap.push {cls:= .type "set",dict:=none,data:= .set #[] 0 (.fresh 0 0 led)}}) s.heap.objs.size [s.heap.objs.size] [] (.set []) (λ D D e=>bt _ e) (by exact d▸dC _) rfl rfl
  (λ b U=>by replace U:=cR.mp U;subst U;exact⟨ai _,by exact d▸bF _⟩) (λ b U=>by exact absurd U dt)
  λ g=>⟨rfl,(setObjOf_fresh (knd:=intKind J.prog J.w) led).setOf (bM _ rfl) (by decide),List.nodup_nil⟩
 exact⟨_,.ref c.Y.n,S,⟨bF _,by refine(?_:_=Value.ref (if c.Y.n=c.Y.n then _ else _));exact(aw rfl).symm▸rfl⟩,q⟩
theorem Ea(R:Rel J c s){i:Nat}{xs:List Int}{k:Int}{t:Tok}(hi:i<c.Y.n)(e:c.Y.f i= .set xs)(N:xs.length<=1000)(q:Q .none (c.Y.set i (.set (if k∈xs then xs else xs++[k])))):bL J A E c s (call (.builtin "set.add") [.ref (c.ρ i),.int k t]) Q:=by
 have r:=R.obj i hi
 rw[e]at r
 obtain⟨u,f,C⟩:=r
 have w:c.live i:=⟨hi,by refine e.symm▸?_;nofun⟩
 have o:xs.length+1<scanBound:=b9 (gI N) (by decide)
 have z:(intKind J.prog J.w).is k (.int k t)=true:=by refine(?_:(k==k)=true);exact dD.mpr rfl
 refine call_set_add (knd:=intKind J.prog J.w) z rfl f o λ h' L l=> ?_
 have S:=R.upd (s':={s with heap:=h',toks:=s.toks+1}) w (.set (if k∈xs then xs else xs++[k])) (λ b r M U=>by
   rw[u]at U;simp at U;exact(L.2 b U).trans M) (bN L.1.symm) rfl rfl λ g=>⟨u,?_,?_⟩
 ·exact⟨_,.none,S,rfl,q⟩
 ·by_cases H:k∈xs
  ·refine(aw H).symm▸?_
   rw[aw (by exact af H)]at l
   have d:(λ p=>decide (p∈xs)||decide (p=k))=λ p=>decide (p∈xs):=by
    funext p
    by_cases h:p=k
    ·subst h;simp[H]
    ·simp[h]
   rw[d]at l
   exact l
  ·refine(av H).symm▸?_
   rw[av (by simpa using H)]at l
   have d:(λ p=>decide (p∈xs)||decide (p=k))=λ p=>decide (p∈xs++[k]):=by
    funext p;simp
   rw[d]at l
   exact bU▸l
 ·by_cases H:k∈xs
  ·exact aw H▸C
  ·refine(av H).symm▸?_
   rw[List.nodup_append]
   exact⟨C,by simp,λ a y b U=>by replace U:=cR.mp U;subst U;rintro rfl;exact H y⟩
section
open AutoSeq1 (wpAny_loadPart')
theorem xa{prog:Program}{w:World}{Q:aL->Shared->Prop}(it:Addr){o:Obj}{items:Array Value}{n:Nat}(p:s.heap.get? it=some o)(C:o.cls= .type "list")(hd:o.data= .seq items n)(hsz:items.size<=sizeLine)(g:∀h',(∀b M,s.heap.get? b=some M->h'.get? b=some M)->s.heap.objs.size<=h'.objs.size->Q items.toList {s with heap:=h'}):wpAny (model prog w) A (collect (.ref it)) Q E s:=aW λ u=>wpAny_collect_seq (hsz:=hsz) it (.inl rfl) p C hd λ h' H c=>g h' H c
theorem pV(l:Addr)(o:Obj)(items:Array Value)(n:Nat)(C:o.cls= .type "list")(hd:o.data= .seq items n)(hsz:items.size<=sizeLine):Meets (Builtin.«tuple.__new__» ⟨[.type "tuple",.ref l],[]⟩) (λ D R s=>s.heap.get? l=some o/\∀h':Heap,(∀b M,s.heap.get? b=some M->h'.get? b=some M)->s.heap.objs.size<=h'.objs.size->R (.ok (.ret (.ref h'.objs.size))) {s with heap:=h'.push {cls:= .type "tuple",data:= .seq items}}):= .of_wp λ prog w A R s h=>by
  obtain⟨hp,g,d,tk,os⟩:=s;obtain⟨u,h⟩:=h
  have r:=sub_tuple_self
  have Q:=init_tuple_lookup
  have q:=madeHere_tuple
  have j:Shared.TypeIs ⟨hp,g,d,tk,os⟩ (.ref l) "list":=⟨o,u,C⟩
  wp_walk using wpAny_loadPart' u,wpAny_typeOf j,xa l u C hd hsz
  intro h' H c
  show wpAny _ _ (Builtin.Tuple.tupleExact items.toList.toArray>>=λ v=>ret v) _ _ _
  refine ag (nV ?_ (by refine(?_:items.toList.toArray.size<=sizeLine);exact hsz))
  refine aA ⟨_,rfl,?_⟩
  have e:items.toList.toArray=items:=by rfl
  exact e▸h h' H c
theorem qX{prog:Program}{w:World}{l:Addr}{items:Array Value}{Q:dR}(N:s.heap.IsList l items)(hsz:items.size<=sizeLine)(h:∀h':Heap,(∀b M,s.heap.get? b=some M->h'.get? b=some M)->s.heap.objs.size<=h'.objs.size->Q (.ref h'.objs.size) {s with heap:=h'.push {cls:= .type "tuple",data:= .seq items}}):wpAny (model prog w) A (call (.type "tuple") [.ref l]) Q E s:=by
 obtain⟨o,p,C,n,hd⟩:=N
 exact callType_new F.called_tuple (by decide) (F.typeCall_tuple_1 _) (F.newCall_tuple_1 _) (λ obj=>F.args_object_init_2 obj _) F.entry_tuple_new (pV l o items n C hd hsz) ⟨p,λ h' H c=>⟨⟨_,bM _ rfl,rfl⟩,h h' H c⟩⟩
end
theorem Qv(R:Rel J c s){b:Addr}(h:c.N b):b<s.heap.objs.size:=by
 rcases h with t|t|t
 ·exact(R.high _ t).2
 ·exact(R.eB _ t).2.1
 ·obtain⟨o,e,D⟩:=(R.d8 _ t).2.1
  exact cD e
theorem zd:∀{vs:ar}{is:List Int}{g:aL},intsOf vs=some is->ay c h vs g->IntsAre g is
 |[],is,[],M,_=>by obtain rfl:=aM M;exact .nil
 |[],is,_::_,_,r=>r.elim
 |v::vs,is,[],_,r=>r.elim
 |v::vs,is,x::xs,M,r=>by
  induction v using Mine.V.casesOn with
  |int j=>
   have M:(intsOf vs).map (j::·)=some is:=M
   cases e:intsOf vs with
   |none=>rw[e]at M;exact nn M
   |some js=>
    rw[e]at M
    obtain rfl:=aM M
    obtain⟨t,rfl⟩:=r.1
    exact .cons _ _ (zd e r.2)
  |_=>exact nn M
theorem Eb(ok:bA J)(R:Rel J c s){i:Nat}{bC:List (Int×V)}{ep:Nat}{k:Int}{t:Tok}(hi:i<c.Y.n)(e:c.Y.f i= .dict bC ep)(q:Q ((bC.lookup k).getD .none) c.Y):bL J A E c s (call (.builtin "dict.get") [.ref (c.ρ i),.int k t]) Q:=by
 have r:=R.obj i hi
 rw[e]at r
 obtain⟨u,U,b,h⟩:=r
 have p:c.live i:=⟨hi,by refine e.symm▸?_;nofun⟩
 have hd:(c.ρ i==sysModules)=false:=rt R (R.high _ (Rel.di p (by refine u.symm▸?_;exact List.mem_cons_self))).1 ok.sys
 have H:(intKind J.prog J.w).is k (.int k t)=true:=by refine(?_:(k==k)=true);exact dD.mpr rfl
 have M:s.TypeIs (.ref (c.ρ i)) "dict":=by obtain⟨o,es,a,I,D⟩:=id b;exact⟨_,a,I.1⟩
 refine call_meetsIn F.slot_dict_get M F.entry_dict_get (F.args_dict_get_2 _ _) (meets_dict_get (intKind J.prog J.w) (c.ρ i) H hd) ⟨_,b.dictOf.mapOf,?_⟩
 obtain⟨l1,l2⟩:=cT.lookup (k:=k) h
 cases N:bC.lookup k with
 |none=>
  rw[N]at q
  refine⟨c,.none,Step.toks R _,?_,q⟩
  refine(?_:_=Value.none)
  refine(show(valueAt U k)=none from l2 N).symm▸?_;rfl
 |some v=>
  rw[N]at q
  obtain⟨x,I,G⟩:=l1 v N
  refine⟨c,v,Step.toks R _,?_,q⟩
  exact(show(valueAt U k)=some x from I)▸G
theorem fits{n:Nat}(h:n<=100000):n<=sizeLine:=by refine aQ.symm▸?_;exact aa h (by decide)
theorem Bh(R:Rel J c s){v:V}{x:Value}{vs:ar}(r:aD c s.heap v x)(n:bS c.Y v=some vs)(L:short vs=true)(q:Q (.tuple vs) c.Y):bL J A E c s (call (.type "tuple") [x]) Q:=by
 obtain⟨a,g,rfl,U,m⟩:=dk R r n
 have L:vs.length<=100000:=ae L
 refine qX U.isList (by refine cA.symm▸m.length▸?_;exact fits L) λ h' H h=> ?_
 have d:(h'.push {cls:= .type "tuple",data:= .seq g.toArray}).objs.size=h'.objs.size+1:=cf ..
 have S:Step J c s c {s with heap:=h'.push {cls:= .type "tuple",data:= .seq g.toArray}} cZ:=R.heap (λ b o e=>bt _ (H b o e)) (by refine(?_:_<=(Heap.push _ _).objs.size);exact d▸qp h) rfl rfl
 exact⟨c,.tuple vs,S,⟨h'.objs.size,g,rfl,⟨0,bM _ rfl⟩,λ M=>aC h (Qv R M),m.carry S.carry⟩,q⟩
theorem Bj(R:Rel J c s)(l:A.handled=none){v:V}{x:Value}{vs:ar}{is:List Int}(r:aD c s.heap v x)(n:bS c.Y v=some vs)(hi:intsOf vs=some is)(L:short is=true)(U:∀i∈is,0<=i/\i<256)(q:Q (.bytes (is.map Int.toNat)) c.Y):bL J A E c s (call (.type "bytes") [x]) Q:=by
 obtain⟨a,g,rfl,e,m⟩:=dk R r n
 obtain⟨N,h⟩:=td hi m
 have L:is.length<=100000:=ae L
 have G:IntsAre g is:=zd hi m
 refine aW λ u=>call_bytes_ints e.isList G U (by exact N▸fits L) l λ h' t k H o=> ?_
 have S:Step J c s c {s with heap:=h',toks:=k} cZ:=R.heap H o rfl rfl
 refine⟨c,.bytes (is.map Int.toNat),S,⟨?_,t,?_⟩,q⟩
 ·intro y j
  obtain⟨i,hi,rfl⟩:=cQ.mp j
  have:=U i hi
  omega
 ·unfold byteArr bP
  refine fN.symm▸?_
  rfl
section
open Builtin
theorem qY(b I:Array UInt8)(t u:Tok)(T:I.size=256)(M:b.size<=1000000):Meets («bytes.translate» ⟨[.bytes b t,.bytes I u],[]⟩) (λ D R s=>(∀n k,R (.ok (.ret (.bytes (b.map λ c=>I.getD c.toNat c) n))) {s with toks:=k})):=Meets.of_wp λ prog w A R s L=>by
  obtain⟨hp,g,d,tk,os⟩:=s
  have e:=λ(b:Array UInt8) (t:Tok) (id:String)=>(KBd.like_eq (b:=b) (t:=t) (id:=id))
  have q:Bytes.payload (.bytes b t)=pure b:=by rfl
  have ne:¬((I.size !=256)=true):=by simp[T]
  unfold «bytes.translate» Bytes.translateM
  repeat(any_goals (first|assumption|(refine ag (gv (e _ _ _) ?_))|(refine gv (e _ _ _) ?_)|(refine(av ne).symm▸?_)|wp_step))
  have h:(Array.map (λ c=>match some I with|some t=>t.getD c.toNat c|none=>c) (Array.filter (λ x=> !(#[]:Array UInt8).contains x) b))=b.map λ c=>I.getD c.toNat c:=by
   have U:Array.filter (λ x=> !(#[]:Array UInt8).contains x) b=b:=Array.filter_eq_self.mpr (by simp)
   exact U.symm▸rfl
  refine h.symm▸?_
  by_cases he:((b.map λ c=>I.getD c.toNat c)==b)=true
  ·refine(aw he).symm▸?_
   have he:(b.map λ c=>I.getD c.toNat c)=b:=bh he
   refine ag (wpAny_rule ?_)
   refine ag (m:=Bytes.Kind.same _ _) (gv (a:=Value.bytes b t) rfl ?_)
   rw[he]at L
   exact aA ⟨_,rfl,L t tk⟩
  ·refine(av he).symm▸?_
   refine ag (wpAny_mkBytes ?_ (by refine Array.size_map.symm▸aQ.symm▸?_;omega))
   exact aA ⟨_,rfl,L _ _⟩
theorem vy:∀(l:List (UInt8×UInt8))(t:Array UInt8),(l.foldl (λ(t:Array UInt8) x=>match x with|(f,x)=>t.setIfInBounds f.toNat x) t).size=t.size
 |[],t=>rfl
 |p::l,t=>by
  rw[gr,vy l]
  simp
theorem qZ(a b:Array UInt8)(t u:Tok)(he:a.size=b.size):Meets («bytes.maketrans» ⟨[.bytes a t,.bytes b u],[]⟩) (λ D R s=>(∀n k,R (.ok (.ret (.bytes ((a.toList.zip b.toList).foldl (λ t (x:UInt8×UInt8)=>t.setIfInBounds x.1.toNat x.2) ((Array.range 256).map (·.toUInt8))) n))) {s with toks:=k})):=Meets.of_wp λ prog w A R s L=>by
  obtain⟨hp,g,d,tk,os⟩:=s
  have e:=λ(b:Array UInt8) (t:Tok) (id:String)=>(KBd.like_eq (b:=b) (t:=t) (id:=id))
  have ne:¬((a.size !=b.size)=true):=by simp[he]
  unfold «bytes.maketrans» Bytes.maketransM
  repeat(any_goals (first|assumption|(refine ag (gv (e _ _ _) ?_))|(refine gv (e _ _ _) ?_)|(refine(av ne).symm▸?_)|wp_step))
  rw[av (by rw[vy];simp[aQ])]
  refine ag (wpAny_fresh (aA (aA ⟨_,rfl,?_⟩)))
  exact L _ _
end
section
open Builtin Builtin._codecs
theorem pW{l:aj}(h:ascii l=true):∀x∈l,x<128:=λ x I=>by
 unfold ascii at h
 rw[fg]at h
 exact ae (h x I)
theorem Ec{z:Type}{f:Nat->z->Sem (ForInStep z)}{l:aj}{b0:z}(b1:z)(q:l≠[])(M:∀x,f x b0=pure (.yield b1))(u:∀x,f x b1=pure (.done b1)):forIn l b0 f=pure b1:=by
 induction l using List.casesOn with
 |nil=>exact absurd rfl q
 |cons x l=>
  rw[mE,M]
  show forIn l b1 f=pure b1
  induction l using List.casesOn with
  |nil=>rfl
  |cons y l=>rw[mE,u];rfl
theorem xb{id:String}{self:Value}{l:aj}(h:ascii l=true)(L:l.length<=sizeLine):encodeNarrow id asciiCodec none self (strOf l)=pure (bP l):=by
 have U:∀x∈l,asciiCodec.bad x=false:=λ x I=>by
  have:=pW h x I
  refine(?_:decide (x≥128)=false)
  simp;assumption
 have hlen:(strOf l).length=l.length:=aU ..
 have b:∀(m:aj)(acc:Array UInt8),m.foldl (λ acc y=>acc++(asciiCodec.bytesOf y).toArray) acc=acc++bP m:=by
  intro m
  induction m with
  |nil=>intro acc;rfl
  |cons a m g=>
   intro acc
   rw[gr,g]
   refine(?_:acc++ #[a.toUInt8]++bP m=acc++bP (a::m))
   simp[bP]
 induction l using List.casesOn with
 |nil=>kernel_rfl
 |cons a r=>
  show(forIn (m:=Sem) [0:(strOf (a::r)).length] _ _>>=_)=_
  refine(aE (·>>=_) ((Std.Legacy.Range.forIn_eq_forIn_range' ..).trans (Ec ((a::r).length,bP (a::r),{}) ?_ (λ x=> ?_) λ x=> ?_))).trans rfl
  ·refine hlen.symm▸?_;simp[Std.Legacy.Range.size]
  ·refine(av (by decide)).trans ?_
   refine(aw (show(!asciiCodec.bad a)=true by refine(U a (.head _)).symm▸?_;rfl)).trans ?_
   have C:((strOf (a::r)).cps.extract 0 (strOf (a::r)).cps.size)=(a::r).toArray:=by simp[strOf]
   have e:(a::r).toArray.findIdx? asciiCodec.bad=none:=by
    rw[Array.findIdx?_eq_none_iff]
    intro x I
    exact U x (by simpa using I)
   have j:((a::r).toArray.extract 0 ((none:Option Nat).getD (a::r).toArray.size))=(a::r).toArray:=Array.extract_size
   have c:(a::r).toArray.foldl (λ acc y=>acc++(asciiCodec.bytesOf y).toArray) #[]=bP (a::r):=by
    rw[List.foldl_toArray,b]
    simp
   have d:((strOf (a::r)).cps.extract 0 (strOf (a::r)).cps.size).findIdx? asciiCodec.bad=none:=C▸e
   have M:((((strOf (a::r)).cps.extract 0 (strOf (a::r)).cps.size).findIdx? asciiCodec.bad).getD ((strOf (a::r)).cps.extract 0 (strOf (a::r)).cps.size).size)=(a::r).length:=by refine d.symm▸C.symm▸?_;rfl
   have G:((((strOf (a::r)).cps.extract 0 (strOf (a::r)).cps.size).extract 0 ((((strOf (a::r)).cps.extract 0 (strOf (a::r)).cps.size).findIdx? asciiCodec.bad).getD ((strOf (a::r)).cps.extract 0 (strOf (a::r)).cps.size).size)).foldl (λ acc y=>acc++(asciiCodec.bytesOf y).toArray) #[])=bP (a::r):=by rw[d,C,j,c]
   exact aE (λ z=>pure (ForInStep.yield z)) (Prod.ext ((gM _).trans M) (Prod.ext G rfl))
  ·refine(av (by simp[bP];exact L)).trans ?_
   have k:(strOf (a::r)).cps[(a::r).length]? =none:=by simp[strOf]
   exact k.symm▸rfl
theorem G5{id:String}{self:Value}{x:PySem.Str}:encodeRoad id self x (PySem.Str.ofString "ascii") none=(encodeNarrow id asciiCodec none self x>>=λ b=>mkBytes b):=by kernel_rfl
theorem xc(l:aj)(t u:Tok)(h:ascii l=true)(L:l.length<=100000):Meets («str.encode» ⟨[.str (strOf l) t,.str (strOf [97,115,99,105,105]) u],[]⟩) (λ D R s=>(∀n k,R (.ok (.ret (.bytes (bP l) n))) {s with toks:=k})):=Meets.of_wp λ prog w A R s b=>by
  obtain⟨hp,g,d,tk,os⟩:=s
  have G:(strOf [97,115,99,105,105])=PySem.Str.ofString "ascii":=by decide
  refine G.symm▸?_
  unfold «str.encode»
  repeat(any_goals (first|assumption|wp_step))
  rw[av (by decide+kernel)]
  dsimp only
  rw[av (by decide+kernel)]
  refine aA ?_
  refine ag (m:=Str.codecArg _ _ _ _) (gv (a:=none) rfl ?_)
  refine ag (m:=encodeRoad _ _ _ _ _) ?_
  refine(?_:wpAny _ _ (encodeRoad _ (.str (strOf l) t) (strOf l) (PySem.Str.ofString "ascii") none) _ _ _)
  refine G5.symm▸(xb h (fits L)).symm▸?_
  refine ag (aA ?_)
  refine wpAny_mkBytes (aA ⟨_,rfl,b _ _⟩) (by simp[bP];exact fits L)
theorem ze{z:Type}{f:Nat->z->Sem (ForInStep z)}(St:Nat->z):∀(m k i:Nat),(∀j x,i<=j->j<i+m->f x (St j)=pure (.yield (St (j+1))))->forIn (List.range' k m 1) (St i) f=pure (St (i+m))
 |0,k,i,_=>rfl
 |m+1,k,i,h=>by
  rw[List.range'_succ,mE,h i k (ai _) (by omega)]
  show forIn (List.range' (k+1) m 1) (St (i+1)) f=_
  refine(ze St m (k+1) (i+1) (λ j x M u=>h j x (by exact dG ‹_›) (by omega))).symm▸?_
  congr 2;exact iQ _ _ _
theorem G7{z:Type}{f:Nat->z->Sem (ForInStep z)}(St:Nat->z)(m k i:Nat){b0:z}(U:b0=St i)(h:∀j x,i<=j->j<i+m->f x (St j)=pure (.yield (St (j+1)))):forIn (List.range' k m 1) b0 f=pure (St (i+m)):=by
 exact U▸ze St m k i h
theorem Ed{id:String}{l:aj}(h:ascii l=true)(L:l.length<=100000):runDecoder id asciiDecoder none true (bP l) 0 []=pure ((strOf l).cps,l.length):=by
 have hsz:(bP l).size=l.length:=by exact aX _
 show(forIn (m:=Sem) [0:(bP l).size] _ _>>=_)=_
 refine(aE (·>>=_) ((Std.Legacy.Range.forIn_eq_forIn_range' ..).trans ((aE (λ k=>forIn (List.range' 0 k 1) _ _) (?_:_=l.length)).trans (G7 (λ i=>(i,((l.take i).toArray:Array Nat),({held:=[]}:Faults))) l.length 0 0 (b0:=(0,(#[]:Array Nat),({held:=[]}:Faults))) rfl λ j x D s=> ?_)))).trans ?_
 ·refine hsz.symm▸?_;simp[Std.Legacy.Range.size]
 rotate_left
 ·show(pure ((l.take (0+l.length)).toArray,0+l.length):Sem _)=_
  rw[gM,List.take_length];rfl
 ·have s:j<l.length:=Nat.lt_of_lt_of_eq s (gM _)
  refine(av (by refine cA.symm▸List.length_take.symm▸aQ.symm▸?_;omega)).trans ?_
  refine(av (by exact hsz▸iR.mpr s)).trans ?_
  have d:asciiDecoder.find true (bP l) j= .char l[j] (j+1):=by
   have M:l[j]<128:=pW h _ (List.getElem_mem s)
   have C:((bP l).getD j 0).toNat=l[j]:=by
    have:(bP l).getD j 0=UInt8.ofNat l[j]:=by simp[bP,s]
    refine this.symm▸?_
    simp[UInt8.toNat_ofNat];exact aa M (by decide)
   refine(?_:(let c:=((bP l).getD j 0).toNat;if c<128 then Found.char c (j+1)else _)=_)
   refine C.symm▸?_
   exact aw ‹_›
  have e:(l.take (j+1)).toArray=(l.take j).toArray++[l[j]].toArray:=by
   refine List.take_add_one.symm▸(jr s).symm▸?_
   simp
  refine d.symm▸?_
  show pure (ForInStep.yield (j+1,(l.take j).toArray++[l[j]].toArray,_))=_
  exact e.symm▸rfl
theorem G8{id:String}{b:Array UInt8}:decodeRoad id b (PySem.Str.ofString "ascii") none []=(runDecoder id asciiDecoder none true b 0 []>>=λ r=>mkStr ⟨r.1⟩):=by kernel_rfl
theorem zf{l:aj}(h:ascii l=true)(L:l.length<=100000){t t1 t2:Tok}{d:PySem.Str}:Meets («_codecs.decode.text» ⟨[.bytes (bP l) t,.str (PySem.Str.ofString "ascii") t1,.none,.str d t2],[]⟩) (λ D R s=>R (.ok (.ret (.str (strOf l) s.toks))) {s with toks:=s.toks+1}):=by
 refine .of_wp λ prog w A R s x=> ?_
 show wpAny _ _ (Bytes.bytesLike _ (.bytes (bP l) t)>>=λ r=>_) _ _ s
 refine ag (gv KBd.like_eq ?_)
 refine ag (gv KBd.held_eq ?_)
 show wpAny _ _ (_codecs.decodeRoad _ (bP l) (PySem.Str.ofString "ascii") none []>>=λ v=>_) _ _ s
 refine G8.symm▸(Ed h L).symm▸?_
 refine ag (ag (aA ?_))
 exact wpAny_mkStr (aA ⟨_,rfl,x⟩) (by refine(?_:(strOf l).length<=_);rw[aU];exact fits L)
end
section
open Builtin Builtin._codecs
theorem meets_decode(l:aj)(t u:Tok)(h:ascii l=true)(L:l.length<=100000):Meets («bytes.decode» ⟨[.bytes (bP l) t,.str (PySem.Str.ofString "ascii") u],[]⟩) (λ D R s=>(∀n k,R (.ok (.ret (.str (strOf l) n))) {s with toks:=k})):=Meets.of_wp λ prog w A R s b=>by
  obtain⟨hp,g,d,tk,os⟩:=s
  unfold «bytes.decode» Bytes.decodeM
  repeat(any_goals (first|assumption|wp_step))
  rw[av (by decide+kernel)]
  dsimp only
  rw[av (by decide+kernel)]
  refine aA ?_
  refine ag (m:=Bytes.checkCodecArg _ _ _ _) (gv (a:=()) rfl ?_)
  repeat(any_goals (first|assumption|wp_step))
  by_cases he:(bP l).isEmpty=true
  ·rw[aw he]
   have N:l=[]:=by
    induction l using List.casesOn with
    |nil=>rfl
    |cons a r=>exact nf he
   subst N
   refine ag (wpAny_rule ?_)
   refine ag (wpAny_mkStr (aA ⟨_,rfl,b _ _⟩) (by decide))
  ·rw[av he]
   refine ag (wpAny_mkStr ?_ (by decide))
   refine ag (m:=mkStr (PySem.Str.ofString "ascii")) (wpAny_mkStr ?_ (by decide))
   refine ag (m:=pure Value.none) (aA ?_)
   refine ag (wpAny_mkStr ?_ (by decide))
   exact ag (call_function_meets KBd.kind_text KBd.plain_text KBd.entry_text (KBd.args_text _ _ _ _) (zf h L) (aA ⟨_,rfl,b _ _⟩))
end
theorem zh{vs:ar}{T:List aj}{g:aL}(M:strsOf vs=some T)(r:ay c h vs g):∃l:List (Str×Tok),g=strValues l/\l.map (·.1)=T.map strOf:=by
 induction vs generalizing T g with
 |nil=>induction g using List.casesOn with
  |nil=>exact aM M▸⟨[],rfl,rfl⟩
  |cons=>exact r.elim
 |cons v vs y=>induction g using List.casesOn with
  |nil=>exact r.elim
  |cons x xs=>
   induction v using V.casesOn with
   |str j=>
    obtain⟨js,u,rfl⟩:=cB.mp (show(strsOf vs).map (j::·)=some T from M)
    obtain⟨l,rfl,d⟩:=y u r.2
    obtain⟨t,e⟩:=r.1
    exact⟨(strOf j,t)::l,by rw[e];rfl,aE (strOf j::·) d⟩
   |_=>exact nn M
theorem G9(sep:aj)(T:List aj):(T.map (·.length)).sum+T.length*sep.length<=(dH sep T).length+sep.length:=by
 induction T with
 |nil=>rw[List.length_nil,Nat.zero_mul];exact dF _
 |cons x r g=>
  induction r using List.casesOn with
  |nil=>exact bN (by rw[List.length_singleton,Nat.one_mul];rfl)
  |cons y r=>
   rw[show dH sep (x::y::r)=x++sep++dH sep (y::r) from rfl,bU,bU,List.length_cons,Nat.succ_mul,gu,List.sum_cons]
   exact aa (bN ((aE _ (ff _ _)).trans (Nat.add_add_add_comm _ _ _ _))) (aa (gL g _) (bN (gp _ _ _).symm))
theorem qK(sep:aj):∀(T:List aj),Str.join (strOf sep) (T.map strOf)=strOf (dH sep T)
 |[]=>rfl
 |[x]=>by first|rfl|simp[dH,Str.join]
 |x::y::r=>by
  have g:=qK sep (y::r)
  refine(?_:strOf x++strOf sep++Str.join (strOf sep) ((y::r).map strOf)=strOf (x++sep++dH sep (y::r)))
  rw[g,gS,gS]
theorem Ee(R:Rel J c s){v:V}{x:Value}{vs:ar}{sep:aj}{w:List aj}{t:Tok}(r:aD c s.heap v x)(j:bS c.Y v=some vs)(hi:strsOf vs=some w)(M:short (dH sep w)=true)(u:short w=true)(d:short sep=true)(q:Q (.str (dH sep w)) c.Y):bL J A E c s (call (.builtin "str.join") [.str (strOf sep) t,x]) Q:=by
 obtain⟨a,g,rfl,U,m⟩:=dk R r j
 obtain⟨l,rfl,N⟩:=zh hi m
 have M:(dH sep w).length<=100000:=ae M
 have u:w.length<=100000:=ae u
 have d:sep.length<=100000:=ae d
 have G:Builtin.Str.tooLong ((l.map (·.1)).toArray.foldl (·+·.length+(strOf sep).length) 0)=false:=by
  rw[N,StrLaws.joinTotal]
  have I:((w.map strOf).map (·.length))=w.map (·.length):=by
   rw[fN]
   exact ql λ x D=>aU ..
  rw[I,aX,aU]
  unfold Builtin.Str.tooLong
  rw[aQ]
  exact cg (aC (aa (G9 sep w) (aa (fk M d) (by decide))))
 refine kB F.slot_str_join (T:="str") rfl F.entry_str_join (F.args_str_join_2 _ _) (meets_str_join_list (strOf sep) t a l G) ⟨U.isList,?_⟩
 have h:∀l:List (Str×Tok),l.map (·.1)=w.map strOf->Builtin.Str.glued (strOf sep) (l.map (·.1))=strOf (dH sep w):=λ l N=>by
  rw[N,StrLaws.glued_eq_join,qK]
 have b:(strOf (dH sep w)).length<=sizeLine:=by rw[aU];exact fits M
 have done:∀(n:Tok)(k:Nat),gy J c s Q (.str (strOf (dH sep w)) n) {s with toks:=k}:=λ n k=>⟨c,.str (dH sep w),Step.toks R _,⟨n,rfl⟩,q⟩
 match l,N with
 |[],N=>
  have:=h [] N
  exact⟨by rw[this];exact b,by rw[this];exact done _ _⟩
 |[p],N=>
  have:=h [p] N
  have e:Builtin.Str.glued (strOf sep) ([p].map (·.1))=p.1:=by rw[StrLaws.glued_eq_join];rfl
  rw[e]at this
  obtain⟨H,v,S,L,C⟩:=done p.2 s.toks
  exact⟨H,v,S,by rw[this];exact L,C⟩
 |p::i::l,N=>
  have:=h _ N
  exact⟨by rw[this];exact b,by rw[this];exact done _ _⟩
theorem ty_str:typeOf (.type "str")=pure (.type "type"):=by kernel_rfl
theorem ty_bytes:typeOf (.type "bytes")=pure (.type "type"):=by kernel_rfl
theorem ty_bytearray:typeOf (.type "bytearray")=pure (.type "type"):=by kernel_rfl
theorem Nx:isSubtype (.type "str") (.type "str")=pure true:=by rw[eX];kernel_rfl
theorem Ny:isSubtype (.type "bytes") (.type "bytes")=pure true:=by rw[eX];kernel_rfl
theorem Nz:isSubtype (.type "bytes") (.type "str")=pure false:=by rw[eX];kernel_rfl
theorem NA:isSubtype (.type "str") (.type "bytes")=pure false:=by rw[eX];kernel_rfl
theorem NB:isSubtype (.type "bytes") (.type "bytearray")=pure false:=by rw[eX];kernel_rfl
theorem NC:isSubtype (.type "str") (.type "bytearray")=pure false:=by rw[eX];kernel_rfl
section
variable{prog:Program}{w:World}
theorem j4{n:Array UInt8}{u:Tok}{T:String}(U:(Value.type "bytes"==Value.type T)=false)(E:typeOf (.type T)=pure (.type "type"))(r:isSubtype (.type "bytes") (.type T)=pure false):Meets (Builtin.«isinstance» ⟨[.bytes n u,.type T],[]⟩) (λ D R s=>R (.ok (.ret (.bool false))) {s with toks:=s.toks+1}):=λ D D D D s L=>by
  obtain⟨h,g,d,t,os⟩:=s
  exact isinstance_outer (isinstance_nested_false_bytes U E r L)
theorem Answers.te{n:Array UInt8}{u:Tok}{T:String}(U:(Value.type "bytes"==Value.type T)=false)(E:typeOf (.type T)=pure (.type "type"))(r:isSubtype (.type "bytes") (.type T)=pure false):Answers (λ s=>s.TypeIs (.bytes n u) "bytes") (.bytes n u) (.type T) false:=λ D D D D D D s L=>by
  obtain⟨h,g,d,t,os⟩:=s
  exact isinstance_nested_false_bytes U E r (L.2 (t+1))
theorem tf{P:Shared->Prop}(i:∀s tk,P s->P {s with toks:=tk}){x:Value}{Tx:String}{q:Addr}{n:Nat}{cs:aL}{vs:List Bool}{tk:Tok}{Q:PySem.Fin->Shared->Prop}(I:s.TypeIs x Tx)(U:s.heap.get? q=some {cls:= .type "tuple",dict:= .none,data:= .seq cs.toArray n,slots:= #[]})(z:AnswersAll P x cs vs)(L:P s)(b:∀j,Q (.done (.ret (.bool (vs.any id)))) {s with toks:=j}):wpAny (model prog w) A (Builtin.«isinstance.nested» ⟨[x,.ref q,.int 0 tk],[]⟩) Q E s:=by
 obtain⟨h,g,d,t,os⟩:=s
 have T:(⟨h,g,d,t,os⟩:Shared).TypeIs (.ref q) "tuple":=⟨_,U,rfl⟩
 have f1:=F.isi_sub_tuple
 repeat(any_goals (first|assumption|wp_step))
 refine wpAny_arrayLoop ?_
 simp only[Option.getD_some,List.toList_toArray]
 refine isinstance_items (dep:=0) i cs vs _ _ z L λ j=> ?_
 cases r:vs.any id with
 |true=>
  simp only[if_true]
  repeat(any_goals (first|assumption|wp_step))
  exact r▸b j
 |false=>
  simp only[Bool.false_eq_true,if_false]
  repeat(any_goals (first|assumption|wp_step))
  exact r▸b j
theorem iE{x:Value}{Tx:String}{d:Addr}{n:Nat}{cs:aL}{vs:List Bool}(z:AnswersAll (λ s=>s.TypeIs x Tx) x cs vs):Meets (Builtin.«isinstance» ⟨[x,.ref d],[]⟩) (λ D R s=>s.TypeIs x Tx/\s.heap.get? d=some {cls:= .type "tuple",dict:= .none,data:= .seq cs.toArray n,slots:= #[]}/\∀tk,R (.ok (.ret (.bool (vs.any id)))) {s with toks:=tk}):=λ D D D D D L=>isinstance_outer (tf (λ D tk h=>h.toks tk) L.1 L.2.1 z L.1 L.2.2) (Shared.TypeIs.not_mainsLoader L.1)
end
theorem ND{t:Ty}{o:Option Bool}{b:Bool}(h:K3 t o=some b):t= .str/\o=some b:=by
 induction t using Ty.casesOn<;>first|exact nn h|exact⟨rfl,h⟩
theorem QA{v:V}(h:Jc v=true):v= .ty .bytes:=by
 induction v using V.casesOn with
 |ty t=>induction t using Ty.casesOn<;>first|exact nf h|rfl
 |_=>exact nf h
theorem QB{v:V}(h:Jd v=true):v= .ty .bytearray:=by
 induction v using V.casesOn with
 |ty t=>induction t using Ty.casesOn<;>first|exact nf h|rfl
 |_=>exact nf h
inductive Ha(x:Value):Bool->Prop
 |str (s:Str) (t:Tok) (e:x= .str s t):Ha x true
 |bytes (s:Array UInt8) (t:Tok) (e:x= .bytes s t):Ha x false
theorem Hb{v:V}{x:Value}{b:Bool}(r:aD c h v x)(e:BW v=some b):Ha x b:=by
 induction v using V.casesOn<;>first|exact nn e|skip
 ·obtain⟨u,q⟩:=r;exact aM e▸.str _ u q
 ·obtain⟨D,u,q⟩:=r;exact aM e▸.bytes _ u q
theorem zi(R:Rel J c s){v t:V}{x y:Value}{b:Bool}(r:aD c s.heap v x)(r2:aD c s.heap t y)(h:BX v t=some b)(q:Q (.bool b) c.Y):bL J A E c s (call (.builtin "isinstance") [x,y]) Q:=by
 have fin:∀k,gy J c s Q (.bool b) {s with toks:=k}:=λ k=>⟨c,.bool b,Step.toks R _,rfl,q⟩
 induction t using V.casesOn with
 |ty t=>
  obtain⟨rfl,e⟩:=ND h
  refine(show y= .type "str" from r2).symm▸?_
  cases Hb r e with
  |str a t G=>exact G▸call_isinstance (isinstance_true (Tx:="str") ty_str Nx) ⟨rfl,⟨c,.bool true,.refl R,rfl,q⟩⟩
  |bytes a t G=>exact G▸call_isinstance (j4 (by decide) ty_str Nz) (fin _)
 |tuple vs=>
  obtain⟨f,p,rfl,h⟩:=Av h
  have h:(if(Jc f&&Jd p)=true then(BW v).map not else none)=some b:=h
  obtain⟨a,T,rfl,⟨n,e⟩,D,m⟩:=r2
  induction T using List.casesOn with
  |nil=>exact m.elim
  |cons w T=>induction T using List.casesOn with
   |nil=>exact m.2.elim
   |cons M T=>induction T using List.casesOn with
    |cons=>exact m.2.2.elim
    |nil=>
     by_cases g:(Jc f&&Jd p)=true
     ·rw[aw g]at h
      have g:=ao g
      have U:=m.1
      have l:=m.2.1
      rw[QA g.1]at U
      rw[QB g.2]at l
      rw[show w= .type "bytes" from U,show M= .type "bytearray" from l]at e
      obtain⟨z,i,rfl⟩:=cB.mp h
      cases Hb r i with
      |bytes a t G=>
       exact G▸call_isinstance (iE (cs:=[.type "bytes",.type "bytearray"]) (Tx:="bytes") (vs:=[true,false]) ⟨Answers.of_true ty_bytes Ny,Answers.te (by decide) ty_bytearray NB,trivial⟩) ⟨rfl,e,λ tk=>fin tk⟩
      |str a t G=>
       exact G▸call_isinstance (iE (cs:=[.type "bytes",.type "bytearray"]) (Tx:="str") (vs:=[false,false]) ⟨Answers.of_false_str (by decide) ty_bytes NA,Answers.of_false_str (by decide) ty_bytearray NC,trivial⟩) ⟨rfl,e,λ tk=>fin tk⟩
     ·rw[av g]at h;exact nn h
 |_=>exact nn h
section
variable{prog:Program}{w:World}{R:Result->Shared->Prop}{I:Addr}{fp wr:List Addr}{G:Array GenState->Array GenState->Prop}{n:Nat}{P:Nat->Value->Prop}{St:Nat->Shared->Prop}
theorem J7(W:WalksS prog w A.in1 I fp wr G n P St)(S:Addr)(T:S∉fp)(res:Value)(J:Nat->Array Value->Prop)(C:∀i acc v,J i acc->P i v->J (i+1) (acc.push v))(a:∀i acc,J i acc->acc.size<=sizeLine):∀(k i:Nat)(s:Shared)(acc:Array Value)(c:Nat),n-i=k->i<=n->St i s->s.heap.get? S=some {cls:= .type "list",dict:=none,data:= .seq acc c,slots:= #[]}->J i acc->(∀s' M N,Moved (S::wr) G s s'->s'.heap.get? S=some {cls:= .type "list",dict:=none,data:= .seq M N,slots:= #[]}->J n M->R (.ok (.ret res)) s')->codeAny (model prog w) A (.builtin "list.extend.loop" ⟨[.ref S,.ref I,res],[]⟩) R s:=by
 have u:S∉wr:=λ h=>T (W.sub _ h)
 have r:∀b∈wr,b∈S::wr:=λ b U=>mK _ U
 intro k
 induction k with
 |zero=>
  intro i s acc c H hi p x E j
  have f:i=n:=Nat.le_antisymm hi (Nat.le_of_sub_eq_zero H)
  subst f
  refine codeAny_builtin F.entry_extend_loop ?_
  refine(Around.under_plainId F.plain_extend_loop _).symm▸?_
  show wpAny _ A.in1 (pyNext (.ref I)>>=_) _ _ s
  refine ag (W.done s _ _ p λ s' hm=> ?_)
  exact aA (j s' acc c (hm.mono r) (hm.heap S _ u x) E)
 |succ k y=>
  intro i s acc c H hi p x E j
  have L:i<n:=Nat.lt_of_sub_pos (by rw[H];exact Nat.succ_pos k)
  refine codeAny_builtin F.entry_extend_loop ?_
  refine(Around.under_plainId F.plain_extend_loop _).symm▸?_
  show wpAny _ A.in1 (pyNext (.ref I)>>=_) _ _ s
  refine ag (W.item i s _ _ L p λ v s' z g hm=> ?_)
  have m:=hm.heap S _ u x
  have hp:=C i acc v E z
  show wpAny _ A.in1 (updateSeq S (·.push v)>>=_) _ _ _
  refine ag ?_
  refine wpAny_updateSeq m rfl (aA ⟨plainId_quiet F.plain_extend_loop _,y (i+1) _ (acc.push v) _ (aE Nat.pred H) L (W.frame _ s' _ s'.toks g (ai _) λ b U o e=> ?_) (Heap.get?_update_self _ m rfl) hp λ t M N l d Q=> ?_⟩) (a i acc E) (qp (a _ _ hp))
  ·exact(nU _ _ (λ h:S=b=>T (by exact h▸U))).trans e
  ·refine j t M N (Moved.trans W.gtrans ((hm.mono r).then_heap (by first|exact ai _|exact dC _|omega) λ b o U e=> ?_) l) d Q
   exact(nU _ _ (λ h:S=b=>U (by exact h▸List.mem_cons_self))).trans e
end
theorem pX(S:Addr)(x:Str)(t:Tok):Meets (Builtin.«list.extend» ⟨[.ref S,.str x t],[]⟩) (λ A R s=>A.handled=none/\∃(g:aL)(n:Nat),s.heap.get? S=some {cls:= .type "list",dict:= .none,data:= .seq g.toArray n,slots:= #[]}/\g.length<=100000/\x.cps.size<=100000/\∀(s':Shared)(more:aL)(G:Nat),(∀b o,b≠S->s.heap.get? b=some o->s'.heap.get? b=some o)->s'.gens=s.gens->s'.os=s.os->s'.heap.get? S=some {cls:= .type "list",dict:= .none,data:= .seq (g++more).toArray G,slots:= #[]}->more.length=x.cps.size->(∀m y,more[m]? =some y->SignAt x m y)->R (.ok (.ret .none)) s'):=by
 intro prog w A R s ⟨r,g,n,c,hlen,N,l⟩
 refine(?_:wpAny _ A.in1 (Builtin.List.listExtendWith (.ref S) (.str x t) .none) _ _ _)
 refine ag (wpAny_typeOf (T:="str") (v:= .str x t) rfl ?_)
 have H:Builtin.List.listSameRef (.ref S) (.str x t)=false:=rfl
 have L:(Value.type "str"==Value.type "list")=false:=by decide
 have d:(Value.type "str"==Value.type "tuple")=false:=by decide
 simp only[H,L,d,Bool.or_false,Bool.false_eq_true,if_false]
 refine ag (wpAny_pyIter_str λ o St W p=> ?_)
 refine ag (bX ?_)
 refine ag (wpAny_specialOf (T:="str") (v:= .str x t) rfl F.str_len ?_)
 wp_delta
 refine ag (wpAny_isInstance (T:="str") (v:= .str x t) (b:=true) rfl (by rw[eX];kernel_rfl) ?_)
 show wpAny _ A.in1 (typeOf (Value.str x t)>>=_) _ _ _
 refine ag (wpAny_typeOf (T:="str") (v:= .str x t) rfl ?_)
 refine aA ?_
 rw[av (by decide)]
 have M:S<s.heap.objs.size:=cD c
 have E:S∉[s.heap.objs.size]:=λ hm=>az M (cR.mp hm)
 refine aA ⟨plainId_quiet F.plain_extend_loop _,J7 (W A.in1 r).toS S E .none (λ j acc=>∃more:aL,acc.toList=g++more/\more.length=j/\j<=x.cps.size/\∀m y,more[m]? =some y->SignAt x m y) (λ j acc v ⟨more,a1,a2,Q,f⟩ hp=>⟨more++[v],by simp[a1],by simp[a2],?_,λ m y I=> ?_⟩) (λ j acc ⟨more,a1,a2,Q,_⟩=> ?_) x.cps.size 0 _ g.toArray n rfl (dF _) p (bt o c) ⟨[],by simp,rfl,dF _,λ m x h=>by exact nn h⟩ λ s' zj G hm i ⟨more,a1,a2,Q,f⟩=> ?_⟩
 ·obtain⟨k,u,C,_⟩:=hp
  exact(Array.getElem?_eq_some_iff.mp C).1
 ·rw[List.getElem?_append]at I
  split at I
  ·exact f m y I
  ·rename_i M
   have:m=more.length:=by
    by_cases q:m-more.length=0
    ·exact Nat.le_antisymm (Nat.le_of_sub_eq_zero q) (Nat.not_lt.mp M)
    ·rw[List.getElem?_cons]at I
     rw[av q]at I
     exact nn I
   rw[this,Nat.sub_self]at I
   obtain rfl:=aM I
   refine this.symm▸a2.symm▸?_
   exact hp
 ·have:acc.size=g.length+more.length:=by refine bU▸a1▸?_;rfl
  refine this.symm▸aQ.symm▸?_
  exact aa (fk hlen (aa (bN a2) (aa Q N))) (by decide)
 ·refine l s' more G (λ b a U e=>hm.heap b a (λ z=> ?_) (bt o e)) hm.gens hm.os (by refine a1▸?_;exact i) a2 f
  rcases bg.mp z with h|h
  ·exact U h
  ·exact az (cD e) (cR.mp h)
theorem vz{G:Vw}:∀(l:aj)(more:aL)(k:Nat)(L:aj),more.length=l.length->(∀m y,more[m]? =some y->SignAt (strOf L) (m+k) y)->L.drop k=l->ay G h (l.map λ k=>V.str [k]) more
 |[],[],_,_,_,_,_=>trivial
 |[],_::_,_,_,h,_,_=>by exact Nat.noConfusion h
 |_::_,[],_,_,h,_,_=>by exact Nat.noConfusion h
 |a::l,x::more,k,L,h,C,hd=>by
  obtain⟨ch,u,M,H⟩:=C 0 x rfl
  have e:L[k]? =some a:=by
   have:=aE (·[0]?) hd
   simpa using this
  have d:L[0+k]? =some ch:=by exact ib.symm.trans M
  rw[gM,e]at d
  obtain rfl:=aM d
  refine⟨⟨u,H⟩,vz l more (k+1) L (by exact mH h) (λ m y j=> ?_) ?_⟩
  ·have:=C (m+1) y (by exact j)
   exact(iQ m k 1:m+(k+1)=m+1+k)▸this
  ·refine List.drop_drop▸hd.symm▸?_;rfl
theorem zk(R:Rel J c s)(d:A.handled=none){i:Nat}{vs:ar}{l:aj}{t:Tok}(hi:i<c.Y.n)(e:c.Y.f i= .list vs)(L:short vs=true)(N:short l=true)(q:Q .none (c.Y.set i (.list (vs++l.map λ k=> .str [k])))):bL J A E c s (call (.builtin "list.extend") [.ref (c.ρ i),.str (strOf l) t]) Q:=by
 have r:=R.obj i hi
 rw[e]at r
 obtain⟨u,g,⟨n,x⟩,f⟩:=r
 have L:vs.length<=100000:=ae L
 have N:l.length<=100000:=ae N
 have p:c.live i:=⟨hi,by refine e.symm▸?_;nofun⟩
 have hsz:(strOf l).cps.size=l.length:=by rfl
 refine aW λ C=>kB F.slot_list_extend ⟨_,x,rfl⟩ F.entry_list_extend (F.args_list_extend_2 _ _) (pX (c.ρ i) (strOf l) t) ⟨d,g,n,x,by refine f.length▸?_;exact L,by refine hsz.symm▸?_;exact N,λ s' more G k1 k2 k3 H k5 v h=> ?_⟩
 have S:=R.upd (s':=s') p (.list (vs++l.map λ k=> .str [k])) (λ b r U M=>k1 b r (λ q=>M (by refine u.symm▸q.symm▸?_;exact List.mem_cons_self)) U) h k2 k3 λ T=>⟨u,g++more,⟨G,H⟩,(f.carry T).append (vz l more 0 l (by exact k5.symm▸hsz.symm▸rfl) (λ m y j=>v m y j) rfl)⟩
 exact⟨_,.none,S,rfl,q⟩
section
variable{prog:Program}{w:World}
end
set_option maxHeartbeats 4000000 in
theorem i4{a b:aj}:Ad a b=true↔¬b<a:=by
 delta Ad
 rw[Bool.not_eq_true',decide_eq_false_iff_not]
theorem vA(a b c:aj)(M:Ad a b=true)(u:Ad b c=true):Ad a c=true:=i4.mpr (List.not_lt.mpr (List.le_trans (List.not_lt.mp (i4.mp M)) (List.not_lt.mp (i4.mp u))))
theorem Ef(a b:aj):(Ad a b||Ad b a)=true:=by
 rw[Bool.or_eq_true]
 exact(List.le_total a b).imp (λ h=>i4.mpr (List.not_lt.mpr h)) λ h=>i4.mpr (List.not_lt.mpr h)
theorem Hc{a b:aj}(M:Ad a b=true)(u:Ad b a=true):a=b:=List.le_antisymm (List.not_lt.mp (i4.mp M)) (List.not_lt.mp (i4.mp u))
theorem th(l:List aj):(iq l).Perm l:=List.mergeSort_perm l Ad
theorem oO(l:List aj):(iq l).Pairwise λ a b=>Ad a b=true:=List.pairwise_mergeSort vA Ef l
theorem zl{l C:List aj}(p:C.Perm l)(h:C.Pairwise λ a b=>Ad a b=true):C=iq l:=List.Perm.eq_of_pairwise (λ a b D D=>Hc) h (oO l) (p.trans (th l).symm)
theorem zm{p:Str}{r:List Str}(h:risingS p r=true):(p.cps.toList::r.map (·.cps.toList)).Pairwise λ a b=>Ad a b=true:=by
 induction r generalizing p with
 |nil=>exact List.pairwise_singleton ..
 |cons x r y=>
  have h:=ao h
  have I:Ad p.cps.toList x.cps.toList=true:=i4.mpr λ q=>by
   have:=i9 h.1
   rw[ltCps_eq,af q]at this
   exact nf this.symm
  have i:=y h.2
  refine List.pairwise_cons.mpr ⟨λ b U=> ?_,i⟩
  rcases bg.mp U with rfl|U
  ·exact I
  ·exact vA _ _ _ I ((List.pairwise_cons.mp i).1 b U)
theorem xd{l:List Str}(h:sortedS l=true):(l.map (·.cps.toList)).Pairwise λ a b=>Ad a b=true:=by
 induction l using List.casesOn with
 |nil=>exact .nil
 |cons x r=>exact zm h
theorem zo{l:List aj}{vs:aL}(r:StrsAre vs (l.map strOf)):ay c h (l.map V.str) vs:=by
 induction l generalizing vs with
 |nil=>cases r;trivial
 |cons x l g=>
  generalize j:(x::l).map strOf=ys at r
  induction r with
  |nil=>exact nomatch j
  |cons y t r=>
   rw[gu]at j
   injection j with M u
   exact⟨⟨t,by exact M.symm▸rfl⟩,g (u▸r)⟩
theorem zq(l:List (Str×Tok)):StrsAre (strValues l) (l.map (·.1)):=by
 induction l with
 |nil=>exact .nil
 |cons p l y=>exact .cons p.1 p.2 y
theorem pY(R:Rel J c s){i:Nat}{vs:ar}{T:List aj}(hi:i<c.Y.n)(e:c.Y.f i= .list vs)(L:strsOf vs=some T)(N:vs.length<60)(q:Q (.list ((iq T).map .str)) c.Y):bL J A E c s (call (.builtin "sorted") [.ref (c.ρ i)]) Q:=by
 have t:=R.obj i hi
 rw[e]at t
 obtain⟨H,g,U,m⟩:=t
 obtain⟨l,rfl,r⟩:=zh L m
 refine aW λ C=>sorted_strs U.isList (r▸zq l) (by exact m.length▸gQ N (by decide)) λ out h a1 a2 v z=> ?_
 have S:Step J c s c {s with heap:=sortedAll s.heap (strValues l) out} cZ:=R.heap (λ b o M=>sortedAll_old M) z rfl rfl
 obtain⟨d,I⟩:=sortedAll_at s.heap (strValues l) out
 have a:h.map (·.cps.toList)=iq T:=zl (by
  have:=a2.map (·.cps.toList)
  rw[fN]at this
  exact this.trans (by rw[show((λ x:Str=>x.cps.toList)∘strOf)=id from rfl,List.map_id])) (xd v)
 have u:h=(iq T).map strOf:=by rw[<-a,fN,show(strOf∘λ x:Str=>x.cps.toList)=id from rfl,List.map_id]
 refine⟨c,.list ((iq T).map .str),S,⟨s.heap.objs.size+1,out.toList,rfl,⟨d,I⟩,λ G=> ?_,zo (u▸a1)⟩,q⟩
 exact Nat.not_succ_lt_self (Qv R G)
theorem He{l:aj}{k:Nat}(h:k<l.length)(d:UInt8):(bP l).getD k d=UInt8.ofNat (l[k]):=by simp[bP,h]
theorem Bk{I l:aj}(T:I.length=256)(N:∀y∈l,y<256):(bP l).map (λ c=>(bP I).getD c.toNat c)=bP (lC I l):=by
 have e:∀k∈l,(bP I).getD (UInt8.ofNat k).toNat (UInt8.ofNat k)=UInt8.ofNat (I.getD k 0):=λ k H=>by
  have M:(UInt8.ofNat k).toNat=k:=by exact UInt8.toNat_ofNat'▸Nat.mod_eq_of_lt (N k H)
  have u:k<I.length:=by exact T▸N k H
  rw[M,He u]
  simp[u]
 refine(?_:((l.map UInt8.ofNat).toArray).map _=((l.map λ k=>I.getD k 0).map UInt8.ofNat).toArray)
 refine List.map_toArray.symm▸fN.symm▸fN.symm▸?_
 congr 1
 exact ql λ k H=>e k H
theorem Eg{I l:aj}(u:∀y∈I,y<256):∀y∈lC I l,y<256:=by
 intro y j
 unfold lC at j
 obtain⟨k,H,rfl⟩:=cQ.mp j
 refine(kX).symm▸?_
 cases e:I[k]?with
 |none=>trivial
 |some z=>exact u z (vT e)
noncomputable def tabOf(g:Nat->Nat):Array UInt8:=bP ((List.range 256).map g)
theorem Eh{g:Nat->Nat}{f x:Nat}(A:f<256):(tabOf g).setIfInBounds f (UInt8.ofNat x)=tabOf λ k=>if k=f then x else g k:=by
 unfold tabOf bP
 apply Array.ext
 ·simp
 ·intro i M u
  rw[Array.getElem_setIfInBounds]
  simp
  by_cases h:f=i
  ·subst h;simp
  ·simp[h,Ne.symm h]
  ·simpa using M
theorem zr:∀(l:List (Nat×Nat))(g:Nat->Nat),(∀p∈l,p.1<256)->(l.map λ p=>(UInt8.ofNat p.1,UInt8.ofNat p.2)).foldl (λ(t:Array UInt8) (x:UInt8×UInt8)=>t.setIfInBounds x.1.toNat x.2) (tabOf g)=tabOf λ k=>(l.reverse.lookup k).getD (g k)
 |[],g,_=>rfl
 |p::l,g,h=>by
  have hp:p.1<256:=h p (by exact List.mem_cons_self)
  refine gu.symm▸gr.symm▸?_
  have s:(UInt8.ofNat p.1).toNat=p.1:=by exact UInt8.toNat_ofNat'▸Nat.mod_eq_of_lt hp
  refine(?_:List.foldl _ ((tabOf g).setIfInBounds (UInt8.ofNat p.1).toNat (UInt8.ofNat p.2)) _=_)
  refine s.symm▸(Eh hp).symm▸(zr l _ λ q b=>h q (by simp[b])).symm▸?_
  congr 1
  funext k
  rw[mG,List.lookup_append]
  cases l.reverse.lookup k with
  |some v=>rfl
  |none=>
   refine(?_:(if k=p.1 then p.2 else g k)=(List.lookup k [p]).getD (g k))
   rw[eF]
   by_cases H:k=p.1
   ·simp[H]
   ·have:(k==p.1)=false:=by simpa using H
    refine this.symm▸?_;exact av ‹_›
theorem Bl{a b:aj}(z:∀y∈a,y<256):((bP a).toList.zip (bP b).toList).foldl (λ(t:Array UInt8) (x:UInt8×UInt8)=>t.setIfInBounds x.1.toNat x.2) ((Array.range 256).map (·.toUInt8))=bP (fu a b):=by
 have s:(Array.range 256).map (·.toUInt8)=tabOf λ k=>k:=by
  unfold tabOf bP
  apply Array.ext
  ·exact Array.size_map
  ·intro i M u;simp
 have l:(bP a).toList.zip (bP b).toList=(a.zip b).map λ p=>(UInt8.ofNat p.1,UInt8.ofNat p.2):=by
  delta bP
  simp[List.zip_map]
  try rfl
 refine s.symm▸l.symm▸(zr _ _ λ p hp=>z p.1 (List.of_mem_zip hp).1).symm▸?_
 rfl
theorem Ei{a b:aj}(U:∀y∈b,y<256):∀y∈fu a b,y<256:=by
 intro y j
 unfold fu at j
 obtain⟨k,H,rfl⟩:=cQ.mp j
 cases e:(a.zip b).reverse.lookup k with
 |none=>simpa using H
 |some z=>
  have:(k,z)∈(a.zip b).reverse:=by
   generalize (a.zip b).reverse=l at e
   induction l with
   |nil=>exact nn e
   |cons p l g=>
    rw[eF]at e
    by_cases H:k==p.1
    ·rw[H]at e
     have:k=p.1:=by exact ae H
     obtain rfl:=aM e
     subst this
     exact List.mem_cons_self
    ·have x:(k==p.1)=false:=by exact(Bool.not_eq_true _).mp H
     rw[x]at e
     exact mK _ (g e)
  exact U z (List.of_mem_zip (fR.mp this)).2
theorem Hf:Slot "bytes" "translate" "bytes.translate":= .of (owner:="bytes") (n:="translate") (by rw[mI,mJ];kernel_rfl) (by decide+kernel) (by decide+kernel) (by decide+kernel) (by first|exact .inl (by decide+kernel)|exact .inr (by decide+kernel)) (by rw[eX];kernel_rfl)
theorem Ej:entryFor table "bytes.translate"=some Builtin.«bytes.translate»:=entryFor_of_tree (by kernel_rfl)
theorem Hg(a b:Value):argsOk "bytes.translate" ⟨[a,b],[]⟩:=by first|rfl|kernel_rfl|(unfold argsOk;kernel_rfl)
theorem Hh:Slot "bytes" "decode" "bytes.decode":= .of (owner:="bytes") (n:="decode") (by rw[mI,mJ];kernel_rfl) (by decide+kernel) (by decide+kernel) (by decide+kernel) (by first|exact .inl (by decide+kernel)|exact .inr (by decide+kernel)) (by rw[eX];kernel_rfl)
theorem Ek:entryFor table "bytes.decode"=some Builtin.«bytes.decode»:=entryFor_of_tree (by kernel_rfl)
theorem Hi(a b:Value):argsOk "bytes.decode" ⟨[a,b],[]⟩:=by first|rfl|kernel_rfl|(unfold argsOk;kernel_rfl)
theorem El:entryFor table "bytes.maketrans"=some Builtin.«bytes.maketrans»:=entryFor_of_tree (by kernel_rfl)
theorem Em(a b:Value):checkBuiltinCall "bytes.maketrans" ⟨[a,b],[]⟩=pure ():=by kernel_rfl
theorem Eo:plainId "bytes.maketrans"=true:=by decide+kernel
theorem ti{e:aj}(h:isAscii e=true):e=[97,115,99,105,105]:=ae h
section
variable{α:Type}{h₀:Heap}{r:α}
theorem gU{args:ar}{xs:aL}{k:V->Option α}{f:Value}(h:(match args with|[v]=>k v|_=>none)=some r)(G:ay c h₀ args xs)(g:∀v x,aD c h₀ v x->k v=some r->bL J A E c s (call f [x]) Q):bL J A E c s (call f xs) Q:=by
 obtain⟨v,e,h⟩:=Fs h
 rw[e]at G
 obtain⟨x,U,r⟩:=G.one
 exact U▸g v x r h
theorem gj{args:ar}{xs:aL}{k:V->V->Option α}{f:Value}(h:(match args with|[v,w]=>k v w|_=>none)=some r)(G:ay c h₀ args xs)(g:∀v w x y,aD c h₀ v x->aD c h₀ w y->k v w=some r->bL J A E c s (call f [x,y]) Q):bL J A E c s (call f xs) Q:=by
 obtain⟨v,w,e,h⟩:=Av h
 rw[e]at G
 obtain⟨x,y,U,r1,r2⟩:=G.two
 exact U▸g v w x y r1 r2 h
theorem j5{v:V}{x:Value}{k:Nat->Option α}{f:Value}{F:Value->aL}(h:(match v with| .ref i=>k i|_=>none)=some r)(o:aD c h₀ v x)(g:∀i,i<c.Y.n->k i=some r->bL J A E c s (call f (F (.ref (c.ρ i)))) Q):bL J A E c s (call f (F x)) Q:=by
 obtain⟨i,e,h⟩:=Aw h
 rw[e]at o
 exact o.2▸g i o.1 h
theorem rD{v:V}{x:Value}{k:Int->Option α}{f:Value}{F:Value->aL}(h:(match v with| .int i=>k i|_=>none)=some r)(o:aD c h₀ v x)(g:∀i t,k i=some r->bL J A E c s (call f (F (.int i t))) Q):bL J A E c s (call f (F x)) Q:=by
 obtain⟨i,e,h⟩:=pG h
 rw[e]at o
 obtain⟨t,e⟩:=o
 exact e▸g i t h
theorem oQ{v:V}{x:Value}{k:aj->Option α}{f:Value}{F:Value->aL}(h:(match v with| .str i=>k i|_=>none)=some r)(o:aD c h₀ v x)(g:∀l t,k l=some r->bL J A E c s (call f (F (.str (strOf l) t))) Q):bL J A E c s (call f (F x)) Q:=by
 obtain⟨i,e,h⟩:=Ft h
 rw[e]at o
 obtain⟨t,e⟩:=o
 exact e▸g i t h
theorem jF{v:V}{x:Value}{k:aj->Option α}{f:Value}{F:Value->aL}(h:(match v with| .bytes i=>k i|_=>none)=some r)(o:aD c h₀ v x)(g:∀l t,(∀y∈l,y<256)->k l=some r->bL J A E c s (call f (F (.bytes (bP l) t))) Q):bL J A E c s (call f (F x)) Q:=by
 obtain⟨i,e,h⟩:=Fu h
 rw[e]at o
 obtain⟨U,t,e⟩:=o
 exact e▸g i t U h
theorem ea{a b:V}{Y σ':Mem}{p:Bool}{P:Prop}(h:(if p then some (a,Y)else none)=some (b,σ'))(q:Q b σ')(g:p=true->Q a Y->P):P:=by
 have h:=bl h
 obtain⟨rfl,rfl⟩:=Prod.mk.inj h.2
 exact g h.1 q
theorem xe{z:Type}{o:Option z}{f:z->V×Mem}{y:V×Mem}{P:Prop}(h:o.map f=some y)(q:Q y.1 y.2)(g:∀b,o=some b->Q (f b).1 (f b).2->P):P:=by
 obtain⟨t,u,h⟩:=cB.mp h
 exact g t u (h▸q)
end
theorem TR(R:Rel J c s)(l:A.handled=none){t:Ty}{args:ar}{xs:aL}{v:V}{σ':Mem}(G:ay c s.heap args xs)(h:dY c.Y (.ty t) args=some (v,σ'))(q:Q v σ'):bL J A E c s (call (.type t.name) xs) Q:=by
 induction t using Ty.casesOn with
 |int=>
  exact gU h G λ v x r h=>rD (F:=λ z=>[z]) h r λ i t h=>by
   obtain⟨rfl,rfl⟩:=Prod.mk.inj (aM h)
   exact G1 R q
 |bytes=>
  exact gU h G λ v x r h=>by
   obtain⟨vs,M,h⟩:=u6 h
   obtain⟨is,H,h⟩:=K4 h
   exact ea h q λ L q=>Bj R l r M H (ao L).1 (λ i hi=>have z:=ao (fg.mp (ao L).2 i hi);⟨ae z.1,ae z.2⟩) q
 |tuple=>
  exact gU h G λ v x r h=>by
   obtain⟨vs,M,h⟩:=u6 h
   exact ea h q λ L q=>Bh R r M L q
 |set=>
  obtain⟨e,h⟩:=My h
  rw[e]at G
  obtain⟨rfl,rfl⟩:=Prod.mk.inj h
  exact G.none▸G3 R q
 |type=>
  exact gU h G λ v x r h=>xe h q λ t u q=>D8 R r u q
 |bool=>
  exact gU h G λ v x r h=>xe h q λ t u q=>D9 R r u q
 |_=>exact nn h
theorem TS(ok:bA J)(R:Rel J c s)(l:A.handled=none){b:Bi}{args:ar}{xs:aL}{v:V}{σ':Mem}(G:ay c s.heap args xs)(h:dY c.Y (.bi b) args=some (v,σ'))(q:Q v σ'):bL J A E c s (call (.builtin b.id) xs) Q:=by
 induction b using Bi.casesOn with
 |sum=>
  exact gU h G λ v x r h=>by
   obtain⟨vs,M,h⟩:=u6 h
   obtain⟨is,u,h⟩:=K4 h
   exact ea h q λ L q=>G0 R l r M u q
 |sorted=>
  exact gU h G λ v x r h=>j5 (F:=λ z=>[z]) h r λ i hi h=>by
   generalize M:c.Y.f i=o at h
   induction o using O.casesOn with
   |list vs=>
    have h:=ifs h
    obtain⟨T,u,d⟩:=cB.mp h.2
    obtain⟨rfl,rfl⟩:=Prod.mk.inj d
    exact pY R hi M u (ae h.1) q
   |_=>exact nn h
 |len=>
  exact gU h G λ v x r h=>by
   obtain⟨n,M,h⟩:=MB h
   exact ea h q λ L q=>G2 ok R r M (ae L) q
 |isinstance=>
  exact gj h G λ v w x y r1 r2 h=>xe h q λ t H q=>zi R r1 r2 H q
 |_=>exact nn h
theorem zt(R:Rel J c s){l e:aj}{t u:Tok}(L:(isAscii e&&ascii l&&decide (l.length<=100000))=true)(q:Q (.bytes l) c.Y):bL J A E c s (call (.builtin "str.encode") [.str (strOf l) t,.str (strOf e) u]) Q:=by
 have r:=ao L
 have M:=ao r.1
 exact ti M.1▸kB F.slot_str_encode (T:="str") rfl F.entry_str_encode (F.args_str_encode_2 _ _) (xc _ t u M.2 (ae r.2)) λ n k=>⟨c,.bytes _,Step.toks R _,⟨λ y j=>gQ (pW M.2 y j) (by decide),n,rfl⟩,q⟩
theorem zu(R:Rel J c s){l e:aj}{t u:Tok}(L:(isAscii e&&ascii l&&decide (l.length<=100000))=true)(q:Q (.str l) c.Y):bL J A E c s (call (.builtin "bytes.decode") [.bytes (bP l) t,.str (strOf e) u]) Q:=by
 have r:=ao L
 have M:=ao r.1
 refine(ti M.1).symm▸(show strOf [97,115,99,105,105]=PySem.Str.ofString "ascii" by decide).symm▸?_
 exact kB Hh (T:="bytes") (typeIs_bytes _ _ _) Ek (Hi _ _) (meets_decode _ t u M.2 (ae r.2)) λ n k=>⟨c,.str _,Step.toks R _,⟨n,rfl⟩,q⟩
theorem TU(ok:bA J)(R:Rel J c s)(d:A.handled=none){b:Bm}{args:ar}{xs:aL}{v:V}{σ':Mem}(G:ay c s.heap args xs)(h:dY c.Y (.bm b) args=some (v,σ'))(q:Q v σ'):bL J A E c s (call (.builtin b.id) xs) Q:=by
 induction b using Bm.casesOn with
 |iS=>
  exact gj h G λ v w x y r1 r2 h=>j5 (F:=λ z=>[z,y]) h r1 λ i hi h=>by
   obtain⟨vs,M,h⟩:=rA h
   exact ea h q λ L q=>y8 R hi M L r2 q
 |vV=>
  induction args using List.casesOn with
  |nil=>exact nn h
  |cons v l=>
   induction l using List.casesOn with
   |nil=>exact nn h
   |cons w l=>
    induction l using List.casesOn with
    |nil=>
     obtain⟨x,y,e,r1,r2⟩:=G.two
     refine e.symm▸?_
     exact j5 (F:=λ z=>[z,y]) h r1 λ i hi h=>rD (F:=λ z=>[_,z]) h r2 λ k t h=>by
      obtain⟨vs,M,h⟩:=rA h
      obtain⟨L,h⟩:=K5 h
      obtain⟨w,H,h⟩:=SA h
      obtain⟨rfl,rfl⟩:=Prod.mk.inj (aM h)
      exact Bc R hi M (ao L).1 (ae (ao L).2) H q
    |cons=>exact nn h
 |iT=>
  exact gj h G λ v w x y r1 r2 h=>j5 (F:=λ z=>[z,y]) h r1 λ i hi h=>oQ (F:=λ z=>[_,z]) h r2 λ l t h=>by
   obtain⟨vs,M,h⟩:=rA h
   exact ea h q λ L q=>zk R d hi M (ao L).1 (ao L).2 q
 |lp=>
  exact gU h G λ v x r h=>j5 (F:=λ z=>[z]) h r λ i hi h=>by
   obtain⟨vs,M,h⟩:=rA h
   exact ea h q λ L q=>Bb R hi M L q
 |vW=>
  exact gj h G λ v w x y r1 r2 h=>j5 (F:=λ z=>[z,y]) h r1 λ i hi h=>rD (F:=λ z=>[_,z]) h r2 λ k t h=>by
   obtain⟨bC,ep,M,h⟩:=BY h
   obtain⟨rfl,rfl⟩:=Prod.mk.inj (aM h)
   exact Eb ok R hi M q
 |yb=>
  exact gj h G λ v w x y r1 r2 h=>j5 (F:=λ z=>[z,y]) h r1 λ i hi h=>rD (F:=λ z=>[_,z]) h r2 λ k t h=>by
   obtain⟨vs,M,h⟩:=MA h
   exact ea h q λ L q=>Ea R hi M (ae L) q
 |gd=>
  exact gj h G λ v w x y r1 r2 h=>oQ (F:=λ z=>[z,y]) h r1 λ l t h=>oQ (F:=λ z=>[_,z]) h r2 λ e u h=>ea h q λ L q=>zt R L q
 |iU=>
  exact gj h G λ v w x y r1 r2 h=>jF (F:=λ z=>[z,y]) h r1 λ l t D h=>oQ (F:=λ z=>[_,z]) h r2 λ e u h=>ea h q λ L q=>zu R L q
 |kD=>
  exact gj h G λ v w x y r1 r2 h=>oQ (F:=λ z=>[z,y]) h r1 λ l t h=>by
   obtain⟨vs,M,h⟩:=u6 h
   obtain⟨p,H,h⟩:=Pj h
   exact ea h q λ L q=>Ee R r2 M H (ao (ao L).1).1 (ao (ao L).1).2 (ao L).2 q
 |d2=>
  exact gj h G λ v w x y r1 r2 h=>jF (F:=λ z=>[z,y]) h r1 λ l t U h=>jF (F:=λ z=>[_,z]) h r2 λ j u C h=>ea h q λ L q=>by
   have M:=ae (ao L).1
   have H:=ae (ao L).2
   refine kB Hf (T:="bytes") (typeIs_bytes _ _ _) Ej (Hg _ _) (qY _ _ t u (by simp[bP,M]) (by simp[bP];exact aa H (by decide))) λ n k=> ?_
   exact Bk M U▸⟨c,.bytes _,Step.toks R _,⟨Eg C,n,rfl⟩,q⟩
 |c0=>
  exact gj h G λ v w x y r1 r2 h=>jF (F:=λ z=>[z,y]) h r1 λ a t U h=>jF (F:=λ z=>[_,z]) h r2 λ b u C h=>ea h q λ L q=>by
   have fin:∀(n:Tok)(k:Nat),gy J c s Q (.bytes (bP (fu a b)) n) {s with toks:=k}:=λ n k=>⟨c,.bytes _,Step.toks R _,⟨Ei C,n,rfl⟩,q⟩
   refine wpAny_call (codeAny_call_builtin Eo El (gv (Em _ _) ?_))
   refine qZ (bP a) (bP b) t u (by simp[bP,ae (ao L).1]) J.prog J.w A (wants (λ y s'=>gy J c s Q y s') E) s λ n k=> ?_
   exact Bl U▸fin n k
theorem builtins(ok:bA J):cF J:=by
 intro A E c s f args o xs v σ' Q k R g G h q
 induction f using Mine.V.casesOn with
 |ty t=>exact(show o= .type t.name from g)▸TR R k.1 G h q
 |bi b=>exact(show o= .builtin b.id from g)▸TS ok R k.1 G h q
 |bm b=>exact(show o= .builtin b.id from g)▸TU ok R k.1 G h q
 |_=>exact nn h
theorem Ep(C:Addr)(rest:aL)(kw:List (Str×Value)):(Code.builtin "type.__call__" ⟨.ref C::rest,kw⟩).weight=1:=by first|rfl|kernel_rfl|decide+kernel
theorem Hj(C:Addr)(rest:aL)(kw:List (Str×Value)):(Code.builtin "type.__call__" ⟨.ref C::rest,kw⟩).cUnits=1:=by first|rfl|kernel_rfl|decide+kernel
theorem c8.carry{c G:Vw}{h h':Heap}(k:Carry c h G h'):∀{ns:List Str}{vs:ar}{ks:List (Str×Value)},c8 c h ns vs ks->c8 G h' ns vs ks
 |[],[],[],_=>trivial
 |_::_,_::_,(_,_)::_,r=>⟨r.1,r.2.1.carry k,c8.carry k r.2.2⟩
 |[],[],_::_,r=>r.elim
 |[],_::_,_,r=>r.elim
 |_::_,[],_,r=>r.elim
 |_::_,_::_,[],r=>r.elim
theorem tj(ok:bA J){C fI:Nat}(o:O)(E:o= .inst C []\/o= .node C [.aF,.aF,.aF])(hm:makesIn J.K C=true)(hi:findIn J.K (.ref C) "__init__"=some (some (.ref fI)))(e:typeIn J.K (.ref fI)=some (.type "function")){args:ar}{ns:List Str}{kws:ar}{Q:eY}{Y:Mem}(w:aH J d (.glob fI) (.ref Y.n::args) ns kws (λ v σ'=>v= .none/\Q (.ref Y.n) σ') (Y.alloc o)):aH J (d+1) (.glob C) args ns kws Q Y:=by
 intro A c s U xs ks G N j R T I u
 have T:U= .ref C:=T
 subst T
 have X:=R.K ok
 have a:=makes_of (M:=model J.prog J.w) X hm
 refine⟨⟨.machine,?_⟩,?_⟩
 ·obtain⟨⟨oc,od,cd,sl,z,D⟩,D,D,D,D,call,D⟩:=a
  refine(Looks.ld (part:=none) z).andThen ?_
  dsimp only
  exact call.andThen .now
 ·obtain⟨h,g,m,tk,os⟩:=s
  refine make_core a (looks_findIn X hi) (λ self=>bind_fn X self e) (.inl rfl) ?_
  have S:Step J c ⟨h,g,m,tk,os⟩ (c.new (h.objs.size+1) [h.objs.size+1,h.objs.size] [] o) ⟨(h.push emptyDict).push (instObj C h.objs.size),g,m,tk,os⟩ cZ:=by
   rcases E with rfl|rfl
   ·exact Fm R C tk
   ·exact Fn R C tk
  have b:aD (c.new (h.objs.size+1) [h.objs.size+1,h.objs.size] [] o) ((h.push emptyDict).push (instObj C h.objs.size)) (.ref c.Y.n) (.ref (h.objs.size+1)):=
   ⟨bF _,by refine(?_:_=Value.ref (if c.Y.n=c.Y.n then _ else _));rw[aw rfl]⟩
  have H:ja d (A.under (.builtin "type.__call__" ⟨.ref C::xs,ks⟩)):=by
   obtain⟨r1,r2,r3⟩:=G
   refine⟨r1,?_,?_⟩
   ·refine(?_:A.depth+_+8*d<800)
    rw[Ep];omega
   ·refine(?_:A.units+_+60*d<9000)
    rw[Hj];omega
  have L:vZ (A.under (.builtin "type.__call__" ⟨.ref C::xs,ks⟩)) (c.new (h.objs.size+1) [h.objs.size+1,h.objs.size] [] o):=by
   obtain⟨l,y,p⟩:=N.step S
   refine⟨l,?_,p⟩
   refine(?_:A.frames=some l)
   exact y
  subst j
  obtain⟨D,f⟩:=w _ _ _ (.ref fI) (.ref (h.objs.size+1)::xs) ks H L rfl S.rel rfl ⟨b,I.carry S.carry⟩ (c8.carry S.carry u)
  refine codeAny_mono f λ r s' n=> ?_
  obtain⟨x,t,v,rfl,i,k,rfl,q⟩:=n
  have k:x= .none:=k
  subst k
  obtain⟨h1,h2⟩:=aD.carry (v:= .ref c.Y.n) i.carry b
  refine⟨rfl,.ref (h.objs.size+1),t,.ref c.Y.n,rfl,S.trans i,⟨h1,h2⟩,q⟩
structure Hk(fd:FuncData)(sc:Scope)(body:List PySem.Stmt)(names:List Str):Prop where
 vB:fd.scope=sc
 co:sc.isCoroutine=false
 gen:sc.isGenerator=false
 bd:fd.body= .stmts body
 gl:fd.globals=mainGlobals
 bu:fd.builtins=builtinsNs
 kf:sc.kind= .function
 nd:(sc.names.map (·.1)).Nodup
 cl:fd.closure.map (·.1)=names
 nn:names.Nodup
 B:∀x,(x,NameKind.free)∈sc.names↔x∈names
theorem tm{cl:List (Str×Addr)}{j:Nat}{x:Str}(w:(cl.map (·.1)).Nodup)(h:(cl.map (·.1))[j]? =some x):cl.lookup x=(cl.map (·.2))[j]? :=by
 induction cl generalizing j with
 |nil=>exact nn h
 |cons p cl g=>
  obtain⟨y,a⟩:=p
  rw[gu,fh]at w
  induction j using Nat.casesOn with
  |zero=>rw[show x=y from(aM h).symm,eF,hZ];rfl
  |succ j=>
   have I:(cl.map (·.1))[j]? =some x:=h
   rw[eF,kA.mpr λ e=>w.1 (by exact e▸vT I)]
   exact g w.2 I
theorem xg{cl:List (Str×Addr)}{x:Str}{a:Addr}(h:cl.lookup x=some a):x∈cl.map (·.1)/\a∈cl.map (·.2):=⟨cQ.mpr ⟨(x,a),lookup_mem h,rfl⟩,cQ.mpr ⟨(x,a),lookup_mem h,rfl⟩⟩
theorem Hl(ok:bA J)(pk:cM J pg)(hB:cF J){i kk:Nat}{vs:ar}{sc:Scope}{body:List PySem.Stmt}{names:List Str}(g:∀U,J.t5 kk U->Hk U sc body names)(hlen:vs.length=names.length){k:CC}(hk:k.kd=sc.names)(gg:k.G=pg.G){ms:List MS}(hc:fQ k ms body=true){args:ar}{ns:List Str}{kws:ar}{Q:eY}{Y:Mem}(TV:Y.f i= .t5 kk vs)(n:ar)(vals:List (Str×V))(Xr:∀(x:Str)(j:Nat)(v:V),k.nm.lookup x=some j->n[j]? =some v->v= .aF\/∃m:Nat,names[m]? =some x/\vs[m]? =some v)(G:∀U,J.t5 kk U->∀(A:Around)(E:dR) c s xs ks,Rel J c s->c.Y=Y->ay c s.heap args xs->c8 c s.heap ns kws ks->wpAny J.ax A (bindArgs U ⟨xs,ks⟩) (LB J c s Y vals) E s)(hp:jg k (vals.map (·.1))=true)(w:wSs J pg d ms (dg Q) (i3 k n vals) Y):aH J (d+1) (.ref i) args ns kws Q Y:=by
 intro A c s xf xs ks y sk t7 R rf ra rk
 obtain⟨hi,rfl⟩:=rf
 have r:=R.obj i hi
 rw[t7,TV]at r
 obtain⟨gf,cls,U,⟨⟨o,ho,hd,D⟩,⟨xv,rv,hl,zc⟩,OI⟩,C,zv,c',nO,ec,cr⟩:=r
 have F:=g U zv
 have q:=F.vB
 refine⟨⟨.frame,mf ho hd⟩,?_⟩
 refine codeAny_call_function (by refine(?_:A.depth<1000);have:=y.2.1;omega) ho hd (by exact q▸F.co) (by exact q▸F.gen) F.bd cr ?_
 refine aV (G U zv A.in1 _ c s xs ks R t7 ra rk) (λ bs p h=> ?_) λ D D z=>z
 obtain⟨c₁,l,ny,br⟩:=h
 refine F.gl.symm▸F.bu.symm▸q.symm▸?_
 have Xs:U.closure.length=names.length:=by rw[<-F.cl,aX]
 have x6:∀x a,U.closure.lookup x=some a->(x,NameKind.free)∈sc.names/\J.h₀.objs.size<=a/\¬c₁.T a/\a<p.heap.objs.size:=λ x a h=>by
  obtain⟨N,H⟩:=xg h
  rw[F.cl]at N
  rw[OI]at H
  have M:=l.rel.nJ a (l.x a (C a H))
  obtain⟨ox,ex⟩:=M.2.1
  exact⟨(F.B x).mpr N,M.1,M.2.2,cD ex⟩
 have sQ:∀x,(x,NameKind.free)∈sc.names->(U.closure.lookup x).isSome=true:=λ x h=>by
  have:=(F.B x).mp h
  rw[<-F.cl]at this
  obtain⟨m,hm⟩:=List.mem_iff_getElem?.mp this
  refine(tm (by exact F.cl▸F.nn) hm).symm▸?_
  have I:m<U.closure.length:=by have:=(List.getElem?_eq_some_iff.mp hm).1;exact aX _▸this
  simp[I]
 have M:∀b∈cls,∀r,s.heap.get? b=some r->p.heap.get? b=some r:=λ b G r e=>by
  have VP:=R.nJ b (C b G)
  refine l.kept b r e VP.2.2 (λ h=>h) (qq R VP.1) λ hz=> ?_
  exact(R.d8 b hz).2.2.2.1 (C b G)
 have t6:∀(x:Str)(j:Nat)(v:V),k.nm.lookup x=some j->n[j]? =some v->v= .aF\/((x,NameKind.free)∈sc.names/\∃a u,U.closure.lookup x=some a/\p.heap.IsCell a (some u)/\aD c₁ p.heap v u):=λ x j v N H=>by
  rcases Xr x j v N H with z|⟨m,hm,hv⟩
  ·exact .inl z
  ·refine .inr ⟨(F.B x).mpr (vT hm),?_⟩
   obtain⟨u,hu,ru⟩:=rv.get hv
   have IU:(U.closure.map (·.1))[m]? =some x:=by exact F.cl▸hm
   have lk:=tm (by exact F.cl▸F.nn) IU
   rw[OI]at lk
   have I:m<cls.length:=by exact hl▸(List.getElem?_eq_some_iff.mp hu).1
   have nL:cls[m]? =some cls[m]:=jr I
   obtain⟨oc,eo,dc⟩:=zc m cls[m] u nL hu
   refine⟨cls[m],u,by exact lk.symm▸nL.symm▸rfl,?_,ru.carry l.carry⟩
   exact⟨oc,M _ (List.getElem_mem I) _ eo,dc⟩
 refine enter (B:=n) ok R y sk l ny br gg hk F.kf F.nd sQ x6 t6 hp λ env b7 bx En=> ?_
 obtain⟨L,hE,hL,S,T,tp,own,zL,ow⟩:=id En
 exact aV (stmts ok pk hB ms k body (dg Q) _ Y _ _ _ bx _ hc w T tp λ e s' t=>t.none λ D D D h=>h) (λ f kT fy=>Bf R En fy) λ D D z=>z
theorem jE.zip:∀{ps:List Str}{vs:ar}{xs:aL},ay c h vs xs->jE c h (ps.zip vs) (ps.zip xs)
 |[],_,_,_=>trivial
 |_::_,[],[],_=>trivial
 |_::_,[],_::_,r=>r.elim
 |_::_,_::_,[],r=>r.elim
 |p::ps,v::vs,x::xs,r=>⟨rfl,r.1,jE.zip r.2⟩
theorem Hm{v:FuncData}{args:ar}{ns:List Str}{kws:ar}{vals:List (Str×V)}(h:∀c s xs ks,Rel J c s->ay c s.heap args xs->c8 c s.heap ns kws ks->∃bs,Looks J.ax s.heap (bindArgs v ⟨xs,ks⟩) bs/\jE c s.heap vals bs):∀(A:Around)(E:dR) c s xs ks,Rel J c s->c.Y=Y->ay c s.heap args xs->c8 c s.heap ns kws ks->wpAny J.ax A (bindArgs v ⟨xs,ks⟩) (LB J c s Y vals) E s:=by
 intro A E c s xs ks R j G U
 obtain⟨bs,L,u⟩:=h c s xs ks R G U
 exact L.here ⟨c,.refl R,j,u⟩
structure zw(J:Cx)(mg:Str->Option Value)(cc:Addr)(pos:Pos):Prop where
 at_:∀c s,Rel J c s->s.heap.Ns mainGlobals mg/\s.heap.BuiltinsAt mg J.P/\CodeHd s.heap cc J.P
 TY:TriplesOk J.ps.toList
 new:codeAmong pos J.ps.toList=none
 ln:pos.line=J.line
 cl:pos.col=J.col
 ne:mainGlobals≠J.P
theorem J9{Q:dR}{mg:Str->Option Value}{u:Addr}{pos:Pos}{name:Str}{params:Arguments}{body:List PySem.Stmt}{scope:Scope}{M:List (Str×Addr)}{x:Nat}(a:zw J mg u pos)(R:Rel J c s)(y:closureFor scope env=pure M)(N:env.globals=mainGlobals)(C:env.code= .ref u)(h:∀(G:Addr)(p doc:Value)(h':Heap)(tk:Nat),(∀b o,b≠J.P->s.heap.get? b=some o->h'.get? b=some o)->s.heap.objs.size<=h'.objs.size->h'.CodeRec (.ref G) J.qual->h'.get? J.P=some (tabObj (J.ps++ #[rawInt J.line,rawInt J.col,.ref G]))->(G∈c.x\/(s.heap.objs.size<=G/\G<h'.objs.size))->Q (.ref h'.objs.size) {s with heap:=h'.push (fnMade name J.qual params body scope M doc ((mg "__name__").getD .none) G p),toks:=tk}):wpAny J.ax A (makeFunction name J.qual params (.stmts body) scope env [] [] [] pos x) Q E s:=by
 obtain⟨n1,n2,r⟩:=a.at_ c s R
 rcases R.tab with e|⟨G,H,e,cr⟩
 ·refine makeFunction_K y N n1 C r e a.TY a.new a.ne n2 λ G p doc h' tk k1 k2 k3 L k5=> ?_
  rw[a.ln,a.cl]at k5
  exact h G p doc h' tk (λ b o f U=>k1 b o f U) (dG (b9 k2 k3)) L k5 (.inr ⟨k2,k3⟩)
 ·have I:(J.ps++ #[rawInt J.line,rawInt J.col,Value.ref G]).toList=J.ps.toList++[rawInt pos.line,rawInt pos.col,.ref G]:=by rw[a.ln,a.cl];simp
  refine makeFunction_hit (cv:= .ref G) y N n1 C r e (by rw[I];exact TriplesOk_snoc _ _ _ _ a.TY) (by rw[I];exact codeAmong_snoc _ a.TY a.new) n2 λ p doc h' tk k1 k2=> ?_
  have T:h'.CodeRec (.ref G) J.qual:=cr.keeps k1
  exact h G p doc h' tk (λ b o D U=>k1 b o U) k2 T (k1 _ _ e) (.inl H)
noncomputable def Vw.seal(c:Vw)(cs:List Addr):Vw:={c with x:=cs++c.x,y:=c.y.filter λ b=> !decide (b∈cs)}
theorem oR{cs:List Addr}{b:Addr}:b∈(c.y.filter λ b=> !decide (b∈cs))↔b∈c.y/\b∉cs:=by simp
theorem j6(cs:List Addr)(h:Heap):Carry c h (c.seal cs) h:=⟨ai _,λ D D=>rfl,λ D D=>rfl,λ D D t=>t,λ b D U=>by
  rcases U with t|q|q
  ·exact .inl t
  ·exact .inr (.inl (oR.mp q).1)
  ·exact .inr (.inr q),λ D D e D D=>e⟩
theorem Rel.seal(R:Rel J c s)(cs:List Addr)(j:∀b∈cs,b∈c.y)(he:∀b∈cs,∃o,s.heap.get? b=some o):Rel J (c.seal cs) s where
 base:=R.base
 tab:=R.tab.carry (λ o e=>e) λ b U=>⟨dZ.mpr (.inr U),λ o e=>e⟩
 lq:=R.lq
 size:=R.size
 obj:=λ i hi=>(R.obj i hi).carry (j6 cs s.heap) (λ b U=>⟨dZ.mpr (.inr U),λ o e=>e⟩) λ b U o e=>e
 apart:=R.apart
 high:=R.high
 nJ:=λ b U=>by
  rcases dZ.mp U with h|h
  ·exact⟨(R.eB b (j b h)).1,he b h,(R.eB b (j b h)).2.2.1⟩
  ·exact R.nJ b h
 eB:=λ b U=>by
  obtain⟨M,u⟩:=oR.mp U
  exact⟨(R.eB b M).1,(R.eB b M).2.1,(R.eB b M).2.2.1,λ q=>(dZ.mp q).elim u (R.eB b M).2.2.2⟩
 d8:=λ b U=>⟨(R.d8 b U).1,(R.d8 b U).2.1,(R.d8 b U).2.2.1,λ q=>(dZ.mp q).elim (λ h=>(R.d8 b U).2.2.2.2 (j b h)) (R.d8 b U).2.2.2.1,λ q=>(R.d8 b U).2.2.2.2 (oR.mp q).1⟩
 gens:=R.gens
 os:=R.os
theorem Step.seal{c₀ c:Vw}{i s:Shared}(S:Step J c₀ i c s (λ b=>i.heap.objs.size<=b))(R₀:Rel J c₀ i)(cs:List Addr)(j:∀b∈cs,b∈c.y)(he:∀b∈cs,∃o,s.heap.get? b=some o)(w:∀b∈cs,i.heap.objs.size<=b):Step J c₀ i (c.seal cs) s cZ where
 rel:=S.rel.seal cs j he
 carry:=S.carry.trans (j6 cs s.heap) S.size
 x:=λ b h=>dZ.mpr (.inr (S.x b h))
 rS:=λ b h=>(dZ.mp h).elim (λ q=> .inr (w b q)) (S.rS b)
 y:=λ b h=>oR.mpr ⟨S.y b h,λ q=>aC (w b q) (R₀.eB b h).2.1⟩
 z:=S.z
 pz:=S.pz
 kept:=λ b o e g D np v=>S.kept b o e g (iR.mpr (cD e)) np v
 ju:=λ b o e a D=>S.ju b o e a (iR.mpr (cD e))
 size:=S.size
theorem Hn(ok:bA J)(M:cM J pg){l b N I n j t u:Pos}{is ic C Cn gi:Nat}{as:List (Nat×V)}{F:Addr}(H:env.scope.kind= .function)(L:env.globals=mainGlobals)(z:env.builtins=builtinsNs)(R:Rel J c s)(g:ja d A)(m:vZ A c)(hL:env.locals∈c.z)(k1:env.kindOf "stream"=some .local)(hi:is<c.Y.n)(G:fP env s.heap "stream" (.ref (c.ρ is)))(e:c.Y.f is= .inst C as)(hC:pg.insts.contains C=true)(hlen:as.length<=100)(V2:fP env s.heap "_law_piece" (.ref F))(r2:aD c s.heap (.ref ic) (.ref F))(kn:env.kindOf "_netrclex"=some .globalImplicit)(TZ:pg.G[gi]? =some (("_netrclex":Str),V.glob Cn))(T1:env.cells.lookup ("stream":Str)=none)(w:aH J d (.glob Cn) [.ref is] [] [] Q (c.Y.set is (.inst C (mu as 4 (.ref ic))))):wpAny J.ax A (execs [.Assign [.Attribute (.Name "stream" l) "read" b] (.Name "_law_piece" N) I,.Return (some (.Call (.Name "_netrclex" n) [.Name "stream" j] [] t)) u] env) (λ f s'=>Fv J c s Q (.ok f) s') E s:=by
 refine kC (wpAny_Assign_stores (wpAny_Name (lr H V2 (by decide+kernel) ?_) (by decide+kernel)) rfl rfl)
 refine(?_:wpAny _ _ (do let p<-holding [.ref F] (eval (.Name "stream" l) env);standAt b.atName;holding [.ref F,p] (setAttr p (attrName 4) (.ref F));release [.ref F,p] []) _ _ _)
 refine ag (bX (wpAny_Name (lr H G (by decide+kernel) (ag (c7 (ag (bX ((r8 (Q:=λ σ'=>σ'=c.Y.set is (.inst C (mu as 4 (.ref ic)))) R ok hi e (M.inst C hC) (by decide) hlen r2 rfl).go λ D U c₂ k t7=>wpAny_release ?_)))))) (by decide+kernel)))
 have Xv:fP env U.heap "stream" (.ref (c₂.ρ is)):=by
  refine(k.carry.ρ is hi).symm▸?_
  exact G.keep (λ o T=>k.ju _ o T hL λ h=>h) λ a o hl T=>nn (T1.symm.trans hl)
 refine kC (wpAny_Return_some (jf (wpAny_Name ?_ (by decide+kernel))))
 refine(loadName_read H kn).symm▸?_
 refine M.glob gi _ _ TZ c₂ U k.rel A E _ (λ y r=> ?_) env L z
 refine(show y= .ref Cn from r).symm▸?_
 have i:=w A c₂ U (.ref Cn) [.ref (c₂.ρ is)] [] g (m.step k) t7 k.rel rfl ⟨⟨ah hi k.carry.n,rfl⟩,trivial⟩ trivial
 refine bQ (dQ rfl rfl (wpAny_items_cons (wpAny_Name (lr H Xv (by decide+kernel) (wpAny_items_nil (aA ⟨i.1,wpAny_call (codeAny_mono i.2 λ r s' hr=> ?_)⟩))) (by decide+kernel)) rfl))
 obtain⟨x,c',v,rfl,S',rv,q⟩:=hr
 exact⟨x,c',v,rfl,k.trans S',rv,q⟩
inductive Cz(J:Cx)(env:Env)(name:Str)(kk:Nat)(vs:ar)(c₀:Vw)(fz:Shared)(c:Vw)(s:Shared)(f:Flow)(s':Shared):Prop
 |mk (hf:f= .next) (c':Vw) (F:Addr) (S:Step J c₀ fz c' s' cZ) (t7:c'.Y=c.Y.alloc (.t5 kk vs)) (VC:∀i,i<c.Y.n->c'.ρ i=c.ρ i) (r:aD c' s'.heap (.ref c.Y.n) (.ref F)) (V:fP env s'.heap name (.ref F)) (o:∀y u,y≠name->fP env s.heap y u->fP env s'.heap y u) (hL:env.locals∈c'.z):Cz J env name kk vs c₀ fz c s f s'
theorem Ka(R:Rel J c s){a1 a2:Addr}{v1 v2:V}{m z:Value}{kk:Nat}(A:∀b∈[a1,a2],b∈c.y)(r:s.heap.IsCell a1 (some m))(Q:s.heap.IsCell a2 (some z))(r1:aD c s.heap v1 m)(r2:aD c s.heap v2 z){G:Addr}{h':Heap}{tk:Nat}{fobj:Obj}{v:FuncData}(k1:∀b o,b≠J.P->s.heap.get? b=some o->h'.get? b=some o)(k2:s.heap.objs.size<=h'.objs.size)(k3:h'.CodeRec (.ref G) J.qual)(H:h'.get? J.P=some (tabObj (J.ps++ #[rawInt J.line,rawInt J.col,.ref G])))(k5:G∈c.x\/(s.heap.objs.size<=G/\G<h'.objs.size))(k:fobj.isFreed=false)(hd:fobj.data= .func v)(C:fobj.cls= .type "function")(i:v.code= .ref G)(M:v.qualname=J.qual)(y:v.closure.map (·.2)=[a1,a2])(I:J.t5 kk v):∃x,Step J (c.seal [a1,a2]) s ((c.seal [a1,a2]).new h'.objs.size [h'.objs.size] x (.t5 kk [v1,v2])) {s with heap:=h'.push fobj,toks:=tk} cZ:=by
 have p:∀b∈[a1,a2],∃o,s.heap.get? b=some o:=s6 (let⟨o,e,_⟩:=r;⟨o,e⟩) (let⟨o,e,_⟩:=Q;⟨o,e⟩)
 have n:∀b o,b≠J.P->s.heap.get? b=some o->(h'.push fobj).get? b=some o:=λ b o L e=>bt _ (k1 b o L e)
 have d:(h'.push fobj).objs.size=h'.objs.size+1:=cf ..
 have cellK:∀{a u},a∈c.y->s.heap.IsCell a (some u)->(h'.push fobj).IsCell a (some u):=λ A ⟨o,e,dd⟩=>⟨o,n _ _ (qq R (R.eB _ A).1) e,dd⟩
 have mk:∀x:List Addr,(∀b∈x,s.heap.objs.size<=b/\b∉[h'.objs.size]/\∃T,(h'.push fobj).get? b=some T)->G∈x++(c.seal [a1,a2]).x->
   Step J (c.seal [a1,a2]) s ((c.seal [a1,a2]).new h'.objs.size [h'.objs.size] x (.t5 kk [v1,v2])) {s with heap:=h'.push fobj,toks:=tk} cZ:=λ x E N=>by
  refine(R.seal [a1,a2] A p).O1 (s':={s with heap:=h'.push fobj,toks:=tk}) h'.objs.size [h'.objs.size] x (.t5 kk [v1,v2]) n (.inr ⟨G,N,bt _ H,k3.push _⟩) (by refine(?_:_<=(h'.push fobj).objs.size);exact d▸qp k2) rfl rfl (wX ⟨k2,by refine(?_:_<(h'.push fobj).objs.size);exact d▸bF _⟩) E λ g=>⟨rfl,[a1,a2],v,⟨⟨fobj,bM _ k,hd,C⟩,⟨[m,z],⟨(r1.carry (j6 _ _)).carry g,(r2.carry (j6 _ _)).carry g,trivial⟩,rfl,λ j b x U l=> ?_⟩,y⟩,λ b U=>jq _ (gP _ U),I,G,N,i,by refine i.symm▸M.symm▸?_;exact k3.push _⟩
  induction j using Nat.casesOn with
  |zero=>refine(aM U)▸(aM l)▸?_;exact cellK (A _ (.head _)) r
  |succ j=>induction j using Nat.casesOn with
   |zero=>refine(aM U)▸(aM l)▸?_;exact cellK (A _ (.tail _ (.head _))) Q
   |succ j=>exact nn U
 rcases k5 with h|⟨w,h2⟩
 ·exact⟨[],mk [] nofun (jq _ (jq _ h))⟩
 ·obtain⟨cq,oc,vs,t,ec,f,D⟩:=id k3
  rw[<-Value.ref.inj ec]at f
  exact⟨[G],mk [G] (wX ⟨w,λ q=>az h2 (cR.mp q),oc,bt _ f⟩) (.head _)⟩
theorem lex_def{c c₀:Vw}{s v:Shared}{mg:Str->Option Value}{H:Addr}{pos:Pos}{name:Str}{params:Arguments}{body:List PySem.Stmt}{scope:Scope}{n1 n2:Str}{a1 a2:Addr}{v1 v2:V}{m z:Value}{kk:Nat}(f:zw J mg H pos)(T:At J pg d k B Y A c s env)(l:Step J c₀ v c s (λ b=>v.heap.objs.size<=b))(R₀:Rel J c₀ v)(g:env.code= .ref H)(w:qualnameIn env name name=J.qual)(t:params.defaults=[])(T4:params.kw_defaults=[])(NG:annTrees params none env=[])(x6:closureFor scope env=pure [(n1,a1),(n2,a2)])(j:∀b∈[a1,a2],b∈c.y)(hn:∀b∈[a1,a2],v.heap.objs.size<=b)(r:s.heap.IsCell a1 (some m))(M:s.heap.IsCell a2 (some z))(r1:aD c s.heap v1 m)(r2:aD c s.heap v2 z)(I:env.locals∈c.z)(fL:v.heap.objs.size<=env.locals)(L:env.kindOf name=some .local)(zv:∀G p doc,J.t5 kk (fnX name J.qual params body scope [(n1,a1),(n2,a2)] .none .none doc ((mg "__name__").getD .none) none (.ref G) p)):wpAny J.ax A (exec (.FunctionDef name params body [] none [] scope none name pos) env) (Cz J env name kk [v1,v2] c₀ v c s) E s:=by
 refine nestDef_K t T4 NG ?_
 refine w.symm▸?_
 refine J9 f T.rl x6 T.en.glob g λ G p doc h' tk k1 k2 k3 k4 k5=> ?_
 have R:=T.rl
 obtain⟨x,Q⟩:=Ka (tk:=tk) (fobj:=fnMade name J.qual params body scope [(n1,a1),(n2,a2)] doc ((mg "__name__").getD .none) G p) R j r M r1 r2 k1 k2 k3 k4 k5 rfl rfl rfl rfl rfl rfl (zv G p doc)
 have S1:=l.seal R₀ [a1,a2] j (s6 (let⟨o,e,_⟩:=r;⟨o,e⟩) (let⟨o,e,_⟩:=M;⟨o,e⟩)) hn
 have n:∀b o,J.h₀.objs.size<=b->s.heap.get? b=some o->(h'.push (fnMade name J.qual params body scope [(n1,a1),(n2,a2)] doc ((mg "__name__").getD .none) G p)).get? b=some o:=λ b o nb e=>bt _ (k1 b o (qq R nb) e)
 have dst:∀b,Dk env name b->b=env.locals:=λ b U=>U.elim (λ h=>h.2) λ h=>absurd (L.symm.trans h.1) nofun
 refine uQ T.en.kind (T.en.H.keep λ b o U e=>⟨o.slots,n b o (R.mX (T.en.own b U)).1 e⟩) (.inl L) λ IQ T5 Xw hx ho FV hsz=> ?_
 have N:=Q.rel.d8 _ I
 have C:=Q.rel.Ah (Dk env name) (s':={s with heap:=IQ,toks:=T5}) (λ b o e nw=>(FV b nw).trans e) (λ b U=>by exact dst b U▸⟨N.1,N.2.2.1,N.2.2.2.1,.inr I⟩) (λ b D U=>by
   refine(dst b U).symm▸?_
   obtain⟨o,es,ep,e,hd,D⟩:=Xw.loc
   exact⟨o,e,λ vs q=>by rw[hd]at q;exact nomatch q⟩) (bN hsz.symm) rfl rfl
 exact⟨rfl,_,h'.objs.size,Step.freshen R₀ (W:=cZ) (W':=Dk env name) ((S1.trans Q).bO.trans C) λ b U=> .inr (by exact dst b U▸fL),rfl,λ i hi=>av (az hi),(wW (s:=s) (s':=s)).carry C.carry,hx,λ y u fo V=>ho y u fo (V.keep (λ o e=>⟨o.slots,n _ o (R.mX (T.en.own _ (.inl rfl))).1 e⟩) λ a o hl e=>⟨o.slots,n _ o (T.en.seen y a hl).1 e⟩),I⟩
theorem Ho{x:Str}{j:Nat}{v:V}(T:At J pg d k B Y A c s env)(M:k.nm.lookup x=some j)(H:isVar (env.kindOf x)=true)(r:B[j]? =some v)(g:v≠.aF):∃u,fP env s.heap x u/\aD c s.heap v u:=(T.fv x j v M H r).resolve_left g
inductive NH(J:Cx)(pg:Pg)(d:Nat)(j1 j2 js kk Cn:Nat)(Q:eY)(B:ar)(σ':Mem):Prop
 |mk (v1 v2:V) (is C:Nat) (as:List (Nat×V)) (g1:B[j1]? =some v1) (g2:v1≠.aF) (g3:B[j2]? =some v2) (g4:v2≠.aF) (g5:B[js]? =some (.ref is)) (g6:σ'.f is= .inst C as) (g7:pg.insts.contains C=true) (g8:as.length<=100) (w:aH J d (.glob Cn) [.ref is] [] [] Q ((σ'.alloc (.t5 kk [v1,v2])).set is (.inst C (mu as 4 (.ref σ'.n))))):NH J pg d j1 j2 js kk Cn Q B σ'
theorem zx{i s:Shared}{x:Str}{j:Nat}{v:V}(T:At J pg d k B Y A c s env)(I:env.kindOf x=some .cell)(own:∀b,Own env b->i.heap.objs.size<=b)(o:∀b,Own env b->b=env.locals\/b∈c.y)(M:k.nm.lookup x=some j)(l:B[j]? =some v)(g:v≠.aF):∃a u,env.cells.lookup x=some a/\a∈c.y/\i.heap.objs.size<=a/\s.heap.IsCell a (some u)/\aD c s.heap v u:=by
 obtain⟨a,D,N,D,h⟩:=T.en.H.cell x I
 have E:Own env a:= .inr ⟨x,I,N⟩
 obtain⟨u,V,r⟩:=Ho T M (by refine I.symm▸?_;rfl) l g
 refine⟨a,u,N,(o a E).resolve_left h,own a E,?_,r⟩
 rcases V with⟨q,D⟩|⟨D,e,p,C⟩
 ·rw[I]at q;exact nomatch q
 ·rw[N]at p;exact aM p▸C
theorem Hp(ok:bA J)(N:cM J pg)(hB:cF J){fa:Nat}{U:FuncData}{u H:PySem.Stmt}{params:Arguments}{LC:List PySem.Stmt}{scope:Scope}{pos p1 p2 p3 p4 p5 p6 p7 p8:Pos}(F:FnAt J fa U [u,H,.FunctionDef "_law_piece" params LC [] none [] scope none "_law_piece" pos,.Assign [.Attribute (.Name "stream" p1) "read" p2] (.Name "_law_piece" p3) p4,.Return (some (.Call (.Name "_netrclex" p5) [.Name "stream" p6] [] p7)) p8]){mg:Str->Option Value}{cc:Addr}(g:zw J mg cc pos)(vC:U.code= .ref cc)(T3:params.defaults=[])(T4:params.kw_defaults=[]){n1 n2:Str}{kk j1 j2 js Cn gi:Nat}(hq:∀L,qualnameIn (fEnv U.scope [] L (U.qualname++".<locals>.") fa U.code) "_law_piece" "_law_piece"=J.qual)(NG:∀L,annTrees params none (fEnv U.scope [] L (U.qualname++".<locals>.") fa U.code)=[])(T6:∀L a1 a2,(fEnv U.scope [] L (U.qualname++".<locals>.") fa U.code).cells.lookup n1=some a1->(fEnv U.scope [] L (U.qualname++".<locals>.") fa U.code).cells.lookup n2=some a2->closureFor scope (fEnv U.scope [] L (U.qualname++".<locals>.") fa U.code)=pure [(n1,a1),(n2,a2)])(k1:U.scope.names.lookup n1=some .cell)(k2:U.scope.names.lookup n2=some .cell)(kp:U.scope.names.lookup ("_law_piece":Str)=some .local)(y:U.scope.names.lookup ("stream":Str)=some .local)(kn:U.scope.names.lookup ("_netrclex":Str)=some .globalImplicit)(zv:∀a1 a2 p m doc,J.t5 kk (fnX "_law_piece" J.qual params LC scope [(n1,a1),(n2,a2)] .none .none doc ((mg "__name__").getD .none) none (.ref p) m)){k:CC}(hk:k.kd=U.scope.names)(gg:k.G=pg.G)(m1:k.nm.lookup n1=some j1)(m2:k.nm.lookup n2=some j2)(ms:k.nm.lookup ("stream":Str)=some js)(TZ:pg.G[gi]? =some (("_netrclex":Str),V.glob Cn)){t1 t2:MS}(Xx:Jp k t1 u=true)(Xy:Jp k t2 H=true){args:ar}{Q:eY}{Y:Mem}(n:Nat)(vals:List (Str×V))(l:∀(A:Around)(E:dR) c s xs ks,Rel J c s->c.Y=Y->ay c s.heap args xs->c8 c s.heap [] [] ks->wpAny J.ax A (bindArgs U ⟨xs,ks⟩) (LB J c s Y vals) E s)(hp:jg k (vals.map (·.1))=true)(w:wS J pg d t1 (λ G B Y=>G= .next/\wS J pg d t2 (λ G B σ'=>G= .next/\NH J pg d j1 j2 js kk Cn Q B σ') B Y) (i3 k (List.replicate n .aF) vals) Y):aH J (d+1) (.glob fa) args [] [] Q Y:=by
 intro A c s xf xs ks rm sk t7 R rf ra rk
 refine(show xf= .ref fa from rf).symm▸?_
 obtain⟨o,BS,hd⟩:=F.lk
 have ho:=R.K ok fa o BS
 refine⟨⟨.frame,mf ho hd⟩,codeAny_call_function (b9 (au ..) (gQ rm.2.1 (by decide))) ho hd F.co F.gen F.bd (F.cr c s R) (aV (l A.in1 _ c s xs ks R t7 ra rk) (λ bs aq h=> ?_) λ D D z=>z)⟩
 obtain⟨c₁,cU,ny,br⟩:=h
 refine F.gl.symm▸F.bu.symm▸F.cl.symm▸?_
 refine enter (cl:=[]) (B:=List.replicate n .aF) ok R rm sk cU ny br gg hk F.kf F.nd (λ x h=>absurd h (F.nf x)) (λ x a h=>nn h) (λ x i v D h=> .inl (Bg h)) hp λ env b7 bx En=> ?_
 obtain⟨L,j,hL,S,T,tp,own,zL,ow⟩:=En
 have M:∀x,env.kindOf x=U.scope.names.lookup x:=λ x=>by refine j.symm▸?_;rfl
 have r:env.locals=L:=by refine j.symm▸?_;rfl
 have ek:env.scope.kind= .function:=by exact j▸F.kf
 have pE:=Qq ok N (all ok N hB) (d:=d)
 refine kC (aV (pE t1 k u _ _ Y _ _ _ bx env Xx w T tp λ e s' t=>t.none λ D D D h=>(nomatch h.1)) (λ f jU jB=> ?_) λ D D z=>z)
 obtain⟨sC,VS,G,cV,pS,f4,e4,bB⟩:=jB
 rw[e4]at f4
 refine(show f= .next from f4).symm▸?_
 refine kC (aV (pE t2 k H _ _ sC.Y _ _ _ jU env Xy bB pS tp λ e s' t=>t.none λ D D D h=>(nomatch h.1)) (λ f kT fy=> ?_) λ D D z=>z)
 obtain⟨je,GY,G,eC,I,f5,e5,c5⟩:=fy
 obtain⟨v1,v2,is,C,as,g1,g2,g3,g4,g5,g6,g7,g8,c5⟩:=c5
 rw[e5]at f5
 refine(show f= .next from f5).symm▸?_
 have xh:=cV.trans eC
 have NF:=S.trans (xh.mono own)
 have LD:∀b,Own env b->b=env.locals\/b∈je.y:=λ b l=>(ow b l).imp (λ q=>q.trans r.symm) λ q=>xh.y b q
 obtain⟨a1,u1,l1,y1,z1,i1,r1⟩:=zx I ((M n1).trans k1) own LD m1 g1 g2
 obtain⟨a2,u2,l2,y2,z2,i2,r2⟩:=zx I ((M n2).trans k2) own LD m2 g3 g4
 obtain⟨us,Vs,hi,rfl⟩:=Ho I ms (by rw[M,y];rfl) g5 (by nofun)
 have R0:env.locals∈je.z:=by exact r▸xh.z _ zL
 refine kC (aV (lex_def (n1:=n1) (n2:=n2) (v1:=v1) (v2:=v2) (kk:=kk) g I NF R (by exact j▸vC) (by exact j▸hq _) T3 T4 (by exact j▸NG _) (by rw[j]at l1 l2⊢;exact T6 _ a1 a2 l1 l2) (s6 y1 y2) (s6 z1 z2) i1 i2 r1 r2 R0 (by exact r▸hL) ((M _).trans kp) (λ p m doc=>zv a1 a2 p m doc)) (λ f Gz GA=> ?_) λ D D z=>z)
 obtain⟨f6,GB,Fa,pU,Bn,NI,rF,VF,Vo,VT⟩:=GA
 refine f6.symm▸?_
 refine aV (Hn ok N (d:=d) (is:=is) (ic:=je.Y.n) (C:=C) (as:=as) (Q:=Q) ek I.en.glob I.en.Mj pU.rel T.rm (GX (sk.step pU) ek (by refine j.symm▸?_;rfl) (r▸VT)).1 VT ((M _).trans y) (by exact Bn▸gO hi) (by exact NI is hi▸Vo _ _ (by decide) Vs) (by exact Bn▸(av (az hi)).trans g6) g7 g8 VF rF ((M _).trans kn) TZ (by
   exact j▸wK λ q=>nomatch(bf F.nd q).symm.trans y) (by exact Bn▸c5)) (λ f TC M4=> ?_) λ D D z=>z
 obtain⟨x,Nn,v,e7,J1,rv,q⟩:=M4
 exact Except.ok.inj e7▸⟨x,Nn,v,rfl,pU.trans J1,rv,q⟩
noncomputable def R4(x:Value)(f:String->Bool):Bool:=match x with
 | .type n=>f n
 |_=>false
theorem NJ{x:Value}{f:String->Bool}(h:R4 x f=true):∃n,x= .type n/\f n=true:=by
 induction x using Value.casesOn<;>first|exact nf h|exact⟨_,rfl,h⟩
noncomputable def Kb(x:Value)(f:Addr->Bool):Bool:=match x with
 | .ref n=>f n
 |_=>false
theorem Hq{x:Value}{f:Addr->Bool}(h:Kb x f=true):∃n,x= .ref n/\f n=true:=by
 induction x using Value.casesOn<;>first|exact nf h|exact⟨_,rfl,h⟩
noncomputable def NK(v:V)(x:Value):Bool:=match v with
 | .none=>match x with
  | .none=>true
  |_=>false
 | .int i=>match x with
  | .int j _=>i==j
  |_=>false
 | .str s=>match x with
  | .str t _=>s==t.cps.toList
  |_=>false
 | .bytes b=>match x with
  | .bytes t _=>b==t.toList.map UInt8.toNat
  |_=>false
 | .glob a=>Kb x λ b=>a==b
 | .bi b=>match x with
  | .builtin s=>b.id==s
  |_=>false
 | .ty t=>R4 x λ n=>t.name==n
 |_=>false
noncomputable def Hr(vs:ar):aL->Bool:=match vs with
 |[]=>l0
 |v::vs=>λ xs=>match xs with
  |[]=>false
  |x::xs=>NK v x&&Hr vs xs
noncomputable def LF(d:Data)(f:Array Value->Bool):Bool:=match d with
 | .seq g _=>f g
 |_=>false
theorem NL{d:Data}{f:Array Value->Bool}(h:LF d f=true):∃g n,d= .seq g n/\f g=true:=by
 induction d using Data.casesOn<;>first|exact nf h|exact⟨_,_,rfl,h⟩
noncomputable def NM(o:Obj)(vs:ar):Bool:=R4 o.cls (·=="tuple")&&o.dict.isNone&&o.slots.isEmpty&&LF o.data λ g=>Hr vs g.toList
noncomputable def QH(K:Frag)(v:V)(x:Value):Bool:=match v with
 | .tuple vs=>Kb x λ a=>(K.lookup a).any λ o=>NM o vs
 |_=>false
noncomputable def Kc(K:Frag)(v:V)(x:Value):Bool:=NK v x||QH K v x
noncomputable def Hs(K:Frag)(x:Str)(v:V):Bool:=match nsIn K mainGlobals x with
 |some o=>match o with
  |some y=>Kc K v y
  |none=> !(x==("__name__":Str))&&(bootBuiltins x).any (Kc K v)
 |none=>false
theorem CA{v:V}{x:Value}(e:NK v x=true):aD c h v x:=by
 induction v using V.casesOn with
 |none=>induction x using Value.casesOn<;>first|exact nf e|rfl
 |int i=>induction x using Value.casesOn<;>first|exact nf e|exact⟨_,by rw[show i=_ from bh e]⟩
 |str i=>induction x using Value.casesOn<;>first|exact nf e|exact⟨_,by rw[show i=_ from bh e];rfl⟩
 |bytes b=>
  induction x using Value.casesOn with
  |bytes t tk=>
   refine(show b=_ from bh e).symm▸?_
   refine⟨λ y j=> ?_,tk,?_⟩
   ·obtain⟨z,D,rfl⟩:=cQ.mp j;exact z.toNat_lt
   ·delta bP
    rw[fN,show UInt8.ofNat∘UInt8.toNat=id by funext z;simp,List.map_id]
  |_=>exact nf e
 |glob a=>obtain⟨b,e,h⟩:=Hq e;exact bh h▸e
 |bi b=>induction x using Value.casesOn<;>first|exact nf e|exact aE Value.builtin (bh e).symm
 |ty t=>obtain⟨n,e,h⟩:=NJ e;exact e.trans (aE Value.type (bh h).symm)
 |_=>exact nf e
theorem Ht{vs:ar}{xs:aL}(e:Hr vs xs=true):ay c h vs xs:=by
 induction vs generalizing xs with
 |nil=>refine(mw e).symm▸?_;trivial
 |cons v vs y=>induction xs using List.casesOn with
  |nil=>exact nf e
  |cons x xs=>exact⟨CA (ao e).1,y (ao e).2⟩
theorem QJ{a:Addr}{o:Obj}(ok:bA J)(R:Rel J c s)(e:J.K.lookup a=some o):¬c.N a:=λ n=>by
 have lt:=cD (ok.Pf a o e).1
 rcases n with t|t|t
 ·exact aC (R.high a t).1 lt
 ·exact aC (R.eB a t).1 lt
 ·exact aC (R.d8 a t).1 lt
theorem xi(ok:bA J)(R:Rel J c s){v:V}{x:Value}(e:Kc J.K v x=true):aD c s.heap v x:=by
 rcases RI e with e|e
 ·exact CA e
 ·induction v using V.casesOn with
  |tuple vs=>
   obtain⟨a,rfl,e⟩:=Hq e
   obtain⟨o,E,e⟩:=vU e
   have h:=ao e
   have C:=ao h.1
   have l:=ao C.1
   obtain⟨d,t,b,os⟩:=o
   obtain⟨f,rfl,k⟩:=NJ l.1
   obtain⟨g,n,rfl,j⟩:=NL h.2
   have M:=R.K ok _ _ E
   rw[bh k,show t=none from rQ.mp l.2,show os= #[] from Array.isEmpty_iff.mp C.2]at M
   exact⟨a,g.toList,rfl,⟨n,M⟩,QJ ok R E,Ht j⟩
  |_=>exact nf e
theorem Kd(ok:bA J){mg mb:Str->Option Value}(G:J.h₀.Ns mainGlobals mg)(B:J.h₀.Ns builtinsNs mb)(U:∀x:Str,x≠"__name__"->mb x=bootBuiltins x)(np:mainGlobals≠J.P)(f:builtinsNs≠J.P)(b:(pg.G.all λ p=>Hs J.K p.1 p.2)=true):∀(k:Nat) x v,pg.G[k]? =some (x,v)->∀c s,Rel J c s->∀(A:Around)(E:dR)(Q:dR),(∀y,aD c s.heap v y->Q y s)->∀env:Env,env.globals=mainGlobals->env.builtins=builtinsNs->wpAny J.ax A (loadGlobal env x) Q E s:=by
 intro k x v H c s R A E Q q env n M
 have h:=fg.mp b (x,v) (vT H)
 have g:s.heap.Ns env.globals mg:=by
  obtain⟨o,es,ep,m,r⟩:=G
  exact n▸⟨o,es,ep,R.base _ _ m np,r⟩
 have N:s.heap.Ns env.builtins mb:=by
  obtain⟨o,es,ep,m,r⟩:=B
  exact M▸⟨o,es,ep,R.base _ _ m f,r⟩
 have KI:J.K.In J.h₀:=λ a o e=>(ok.Pf a o e).1
 have h:Hs J.K x v=true:=h
 unfold Hs at h
 cases w:nsIn J.K mainGlobals x with
 |none=>rw[w]at h;exact nf h
 |some o=>
  rw[w]at h
  induction o using Option.casesOn with
  |some y=>exact PySem.Calls.loadGlobal_global g (mg_of KI G w) (q y (xi ok R h))
  |none=>
   have h:=ao h
   obtain⟨y,l,u⟩:=vU h.2
   exact PySem.Calls.loadGlobal_builtin g (mg_none_of KI G w) N ((U x (kA.mp (i9 h.1))).trans l) (q y (xi ok R u))
noncomputable def CB(K:Frag)(x:Nat×Nat×Nat):Bool:=findIn K (.ref x.1) (ba x.2.1)==some (some (.ref x.2.2))&&typeIn K (.ref x.2.2)==some (.type "function")&&(List.range 9).all (λ k=> !(attrName k==ba x.2.1))&&fnIn K x.2.2&&specialIn K (.ref x.2.2) "__get__"==some (some (.builtin "function.__get__"))&&takesIn K (.ref x.2.2)==some false&& !copiedNames.contains (ba x.2.1)
noncomputable def LJ(y:Array (Option Value)):Bool:=decide (y.toList.length=6)&&(y.toList[4]? ==some (some (.builtin "ValueError.__new__")))
noncomputable def LK(d:Data)(f:ClassData->Bool):Bool:=match d with
 | .cls k=>f k
 |_=>false
theorem NN{d:Data}{f:ClassData->Bool}(h:LK d f=true):∃k,d= .cls k/\f k=true:=by
 induction d using Data.casesOn<;>first|exact nf h|exact⟨_,rfl,h⟩
theorem jG{α:Type}{l:List α}{n:Nat}(h:l.length=n+1):∃a t,l=a::t/\t.length=n:=by
 induction l with
 |nil=>exact Nat.noConfusion h
 |cons a t=>exact⟨a,t,rfl,mH h⟩
theorem NO{y:Array (Option Value)}(h:LJ y=true):∃k0 k1 k2 k3 k5,y= #[k0,k1,k2,k3,some (.builtin "ValueError.__new__"),k5]:=by
 obtain⟨l⟩:=y
 obtain⟨G,g⟩:=ao h
 obtain⟨k0,l1,rfl,k⟩:=jG (l:=l) (ae G)
 obtain⟨k1,l2,rfl,d⟩:=jG k
 obtain⟨k2,q,rfl,C⟩:=jG d
 obtain⟨k3,t,rfl,e⟩:=jG C
 obtain⟨H,T,rfl,j⟩:=jG e
 obtain⟨k5,u,rfl,b⟩:=jG j
 exact⟨k0,k1,k2,k3,k5,aE Array.mk ((aE (λ x=>[k0,k1,k2,k3,x,k5]++u) (aM (bh g))).trans (aE _ (List.eq_nil_of_length_eq_zero b)))⟩
noncomputable def Bo(K:Frag)(C:Addr):Bool:=(K.lookup C).any λ o=>R4 o.cls (·=="type")&&LJ o.slots&&LK o.data λ k=>k.mro== .ref C::B5&& !k.hasDel&&nsOkIn K k.ns&&nsIn K k.ns "__init__"==some none
theorem Hu{K:Frag}{C:Addr}(h:Bo K C=true):FK K C:=by
 obtain⟨o,e,h⟩:=vU h
 have u:=ao h
 have M:=ao u.1
 obtain⟨d,dd,t,y⟩:=o
 obtain⟨n,rfl,w⟩:=NJ M.1
 obtain⟨k0,k1,k2,k3,k5,L⟩:=NO M.2
 obtain⟨k,rfl,l⟩:=NN u.2
 have T:=ao l
 have g:=ao T.1
 have r:=ao g.1
 obtain⟨nm,bs,mro,ns,q,hd,sn,sub,ab,col,del⟩:=k
 have hm:mro= .ref C::B5:=bh r.1
 have G:del=false:=i9 r.2
 have L:y=_:=L
 rw[hm,G,L,bh w]at e
 exact⟨nm,q,ns,bs,hd,sn,sub,ab,col,dd,k0,k1,k2,k3,k5,e,g.2,bh T.2⟩
theorem Ke(ok:bA J){mg mb:Str->Option Value}(G:J.h₀.Ns mainGlobals mg)(B:J.h₀.Ns builtinsNs mb)(M:∀x:Str,x≠"__name__"->mb x=bootBuiltins x)(np:mainGlobals≠J.P)(f:builtinsNs≠J.P)(o:(pg.G.all λ p=>Hs J.K p.1 p.2)=true)(i:pg.insts.all (instChk J.K)=true)(v:rz J.K pg.sh=true)(a:pg.meths.all (CB J.K)=true)(y:pg.DC.all (Bo J.K)=true):cM J pg where
 exc:=λ C h=>Hu (fg.mp y C (by simpa using h))
 glob:=Kd ok G B M np f o
 inst:=λ C h=>instOK_of (fg.mp i C (by simpa using h))
 node:=DA v
 aY:=λ C m fa h D=>by
  obtain⟨x,I,rfl⟩:=cB.mp h
  have hp:=ao (List.find?_some (p:=λ x:Nat×Nat×Nat=>x.1==C&&x.2.1==m) I)
  have U:=ao (fg.mp a x (List.mem_of_find?_eq_some I))
  have T:=ao U.1
  have E:=ao T.1
  have g:=ao E.1
  have r:=ao g.1
  have u:=ao r.1
  refine(bh hp.1)▸(bh hp.2)▸?_
  exact⟨bh u.1,bh u.2,λ k H=>kA.mp (i9 (fg.mp r.2 k (dU.mpr H))),g.2,bh E.2,bh T.2,i9 U.2⟩
noncomputable def VU(d:Data):Option FuncData:=match d with
 | .func v=>some v
 |_=>none
theorem T9{d:Data}{v:FuncData}(h:VU d=some v):d= .func v:=by
 induction d using Data.casesOn<;>first|exact nn h|exact aE Data.func (aM h)
noncomputable def CD(d:Data):Option (Array Value):=match d with
 | .fields vs=>some vs
 |_=>none
theorem Hv{d:Data}{v:Array Value}(h:CD d=some v):d= .fields v:=by
 induction d using Data.casesOn<;>first|exact nn h|exact aE Data.fields (aM h)
noncomputable def QK(K:Frag)(fa:Addr):Option FuncData:=(K.lookup fa).bind λ o=>VU o.data
noncomputable def fdOf(K:Frag)(fa:Addr):FuncData:=(QK K fa).getD default
noncomputable def rE(v:FuncData):Option (List PySem.Stmt):=match v.body with
 | .stmts b=>some b
 |_=>none
noncomputable def bodyOf(v:FuncData):List PySem.Stmt:=(rE v).getD []
theorem Hw{v:FuncData}(h:(rE v).isSome=true):v.body= .stmts (bodyOf v):=by
 unfold bodyOf rE at*
 generalize v.body=b at*
 induction b<;>first|rfl|exact nf h
noncomputable def isStr(x:Value)(q:Str):Bool:=match x with
 | .str u _=>u==q
 |_=>false
theorem NP{x:Value}{q:Str}(h:isStr x q=true):∃t,x= .str q t:=by
 induction x using Value.casesOn<;>first|exact nf h|exact⟨_,by rw[bh h]⟩
noncomputable def Er(K:Frag)(N:Value)(q:Str):Bool:=Kb N λ c=>((K.lookup c).bind λ o=>CD o.data).any λ vs=>vs[1]?.any (isStr · q)
noncomputable def LL(K:Frag)(fa:Addr)(v:FuncData):Bool:=(QK K fa).isSome&& !v.scope.isCoroutine&& !v.scope.isGenerator&&(rE v).isSome&&v.globals==mainGlobals&&v.builtins==builtinsNs&&l0 v.closure&&decide (v.scope.kind= .function)&&decide ((v.scope.names.map (·.1)).Nodup)&&v.scope.names.all (λ p=> !decide (p.2= .free))&&Er K v.code v.qualname
theorem Kf(ok:bA J){fa:Addr}(h:LL J.K fa (fdOf J.K fa)=true):FnAt J fa (fdOf J.K fa) (bodyOf (fdOf J.K fa)):=by
 have E:=ao h
 have G:=ao E.1
 have p:=ao G.1
 have U:=ao p.1
 have T:=ao U.1
 have w:=ao T.1
 have g:=ao w.1
 have r:=ao g.1
 have u:=ao r.1
 have M:=ao u.1
 refine⟨?_,i9 M.2,i9 u.2,Hw r.2,bh g.2,bh w.2,mw T.2,ae U.2,ae p.2,λ x I=>of_decide_eq_false (i9 (fg.mp G.2 _ I)) rfl,λ c s R=> ?_⟩
 ·obtain⟨a,e⟩:=uL.mp M.1
  obtain⟨o,k,l⟩:=Option.bind_eq_some_iff.mp e
  exact⟨o,k,by refine(T9 l).symm▸?_;delta fdOf;rw[e];rfl⟩
 ·obtain⟨N,z,e⟩:=Hq E.2
  obtain⟨vs,e,C⟩:=vU e
  obtain⟨o,k,l⟩:=Option.bind_eq_some_iff.mp e
  obtain⟨v,n,C⟩:=vU C
  obtain⟨t,C⟩:=NP C
  exact⟨N,o,vs,t,z,R.K ok _ _ k,Hv l,by exact n.symm▸C.symm▸rfl⟩
theorem Kg{ns:List Str}{kws:ar}{ks:List (Str×Value)}(r:c8 c h ns kws ks):∃o,ks=ns.zip o/\o.length=kws.length/\ay c h kws o:=by
 induction ns generalizing kws ks with
 |nil=>
  induction kws using List.casesOn with
  |nil=>induction ks using List.casesOn with
   |nil=>exact⟨[],rfl,rfl,trivial⟩
   |cons=>exact r.elim
  |cons=>induction ks using List.casesOn<;>exact r.elim
 |cons n ns y=>
  induction kws using List.casesOn with
  |nil=>induction ks using List.casesOn<;>exact r.elim
  |cons v vs=>
   induction ks using List.casesOn with
   |nil=>exact r.elim
   |cons p I=>
    obtain⟨m,x⟩:=p
    obtain⟨o,e,N,A⟩:=y r.2.2
    exact⟨x::o,by refine e.symm▸(show m=n from r.1.symm).symm▸?_;rfl,aE (·+1) N,r.2.1,A⟩
theorem rG(ok:bA J){a:FuncData}{args:ar}{ns:List Str}{kws:ar}{vals:List (Str×V)}(bs:aL->aL->List (Str×Value))(hp:∀S(xs ks:aL),xs.length=args.length->ks.length=kws.length->peek J.K S (bindArgs a ⟨xs,ns.zip ks⟩)=some (bs xs ks))(n:∀(c:Vw)(h:Heap)(xs ks:aL),ay c h args xs->ay c h kws ks->(∀v x,Kc J.K v x=true->aD c h v x)->jE c h vals (bs xs ks)):∀(A:Around)(E:dR) c s xs ks,Rel J c s->c.Y=Y->ay c s.heap args xs->c8 c s.heap ns kws ks->wpAny J.ax A (bindArgs a ⟨xs,ks⟩) (LB J c s Y vals) E s:=Hm λ c s xs ks R G U=>by
  obtain⟨o,rfl,N,r⟩:=Kg U
  exact⟨bs xs o,Looks.of_peek (M:=model J.prog J.w) (R.K ok) (hp _ xs o G.length.symm N),n c s.heap xs o G r λ v x e=>xi ok R e⟩
end
section
variable{J:Cx}{A:Around}{E:dR}{c:Vw}{s:Shared}{d:Nat}{Y:Mem}{env:Env}{Q:eY}{B:ar}{h:Heap}{k:CC}
noncomputable def QL:List (Str×V):=[(("iter":Str),V.bi .iter),(("isinstance":Str),V.bi .isinstance),(("str":Str),V.ty .str),(("bytes_types":Str),V.tuple [.ty .bytes,.ty .bytearray]),(("type":Str),V.ty .type),(("bytes":Str),V.ty .bytes),(("bytearray":Str),V.ty .bytearray),(("_wall":Str),V.glob 21),(("bool":Str),V.ty .bool),(("int":Str),V.ty .int),(("float":Str),V.ty .float),(("complex":Str),V.ty .complex),(("list":Str),V.ty .list),(("tuple":Str),V.ty .tuple),(("dict":Str),V.ty .dict),(("set":Str),V.ty .set),(("frozenset":Str),V.ty .frozenset),(("range":Str),V.ty .range),(("_ascii_buffer":Str),V.glob 91),(("_truth":Str),V.glob 105),(("_b64_value":Str),V.glob 112),(("_buffer":Str),V.glob 98),(("_B64":Str),V.bytes [65,66,67,68,69,70,71,72,73,74,75,76,77,78,79,80,81,82,83,84,85,86,87,88,89,90,97,98,99,100,101,102,103,104,105,106,107,108,109,110,111,112,113,114,115,116,117,118,119,120,121,122,48,49,50,51,52,53,54,55,56,57,43,47]),(("b2a_base64":Str),V.glob 128),(("len":Str),V.bi .len),(("_bytes_from_decode_data":Str),V.glob 71),(("a2b_base64":Str),V.glob 120),(("_NodeInfo":Str),V.glob 163),(("CycleError":Str),V.glob 178),(("_NODE_OUT":Str),V.int (-1)),(("_NODE_DONE":Str),V.int (-2)),(("StopIteration":Str),V.ty .ll),(("_netrclex":Str),V.glob 59),(("sum":Str),V.bi .sum),(("_law_ways":Str),V.glob 288),(("zip":Str),V.ty .zip),(("TopologicalSorter":Str),V.glob 260),(("b64decode":Str),V.glob 144),(("b64encode":Str),V.glob 136),(("_law_needs":Str),V.glob 283),(("_law_lexer":Str),V.glob 271),(("_law_word":Str),V.glob 276),(("_law_due":Str),V.glob 293),(("_law_opened":Str),V.glob 298),(("sorted":Str),V.bi .sorted)]
noncomputable def pg:Pg:=⟨QL,[(59,15,42),(59,13,49),(59,14,56),(260,21,203),(260,5,210),(260,16,215),(260,17,222),(260,18,229),(260,19,243),(260,20,250)],[59,260],163,[178]⟩
structure Hd(J:Cx):Prop where
 hK:∃P,J.K=hp P
 ok:bA J
 pk:cM J pg
noncomputable def j7(J:Cx)(a:Addr)(nm:List (Str×Nat)):CC:=⟨pg.G,(fdOf J.K a).scope.names,nm⟩
theorem len0{α:Type}{l:List α}(h:l.length=0):l=[]:=by cases l with|nil=>rfl|cons _ _=>exact Nat.noConfusion h
theorem Es{α:Type}{l:List α}(h:l.length=1):∃a,l=[a]:=by
 induction l using List.casesOn with
 |nil=>exact(nomatch h)
 |cons a l=>exact len0 (mH h)▸⟨a,rfl⟩
theorem Ua{α:Type}{l:List α}(h:l.length=2):∃a b,l=[a,b]:=by
 induction l using List.casesOn with
 |nil=>exact(nomatch h)
 |cons a l=>obtain⟨b,rfl⟩:=Es (mH h);exact⟨a,b,rfl⟩
noncomputable def Ae(ns:List Str):List (Str×Nat):=ns.zipIdx
noncomputable def NQ(K:Frag)(a:Addr)(ns:List Str)(ms:List MS):Bool:=LL K a (fdOf K a)&&fQ ⟨QL,(fdOf K a).scope.names,Ae ns⟩ ms (bodyOf (fdOf K a))
theorem pZ{l:aL}{n:Nat}(h:l.length=n):l=(List.range n).map (λ i=>l.getD i .none):=by
 subst h
 refine List.ext_getElem (by rw[aX,bR]) λ i M u=> ?_
 rw[List.getElem_map,List.getElem_range,kX,jr M];rfl
theorem ay.app{vs ws:ar}{xs ys:aL}(r:ay c h vs xs)(q:ay c h ws ys):ay c h (vs++ws) (xs++ys):=by
 induction vs generalizing xs with
 |nil=>induction xs using List.casesOn with
  |nil=>exact q
  |cons=>exact r.elim
 |cons v vs y=>induction xs using List.casesOn with
  |nil=>exact r.elim
  |cons x xs=>exact⟨r.1,y r.2⟩
section
variable(H:Hd J)
include H
theorem Hd.fn{a:Addr}{ns:List Str}{ms:List MS}(h:∀P,NQ (hp P) a ns ms=true):FnAt J a (fdOf J.K a) (bodyOf (fdOf J.K a)):=by
 obtain⟨P,q⟩:=H.hK
 exact Kf H.ok (by exact q▸(ao (h P)).1)
theorem Hd.bY{a:Addr}{ns:List Str}{ms:List MS}(h:∀P,NQ (hp P) a ns ms=true):fQ (j7 J a (Ae ns)) ms (bodyOf (fdOf J.K a))=true:=by
 obtain⟨P,q⟩:=H.hK
 delta j7;exact q▸(ao (h P)).2
theorem Hd.bk{a:Addr}{ns xs:List Str}(h:∀P,jg ⟨QL,(fdOf (hp P) a).scope.names,Ae ns⟩ xs=true):jg (j7 J a (Ae ns)) xs=true:=by
 obtain⟨P,q⟩:=H.hK
 delta j7;exact q▸h P
theorem Hd.call{a:Addr}{ms:List MS}{args kws B:ar}{q:List Str}(ns:List Str)(n:Nat)(t:ar)(s:aL)(w:wSs J pg d ms (dg Q) B Y)(hd:∀c h,ay c h t s)(M:∀P,NQ (hp P) a ns ms=true)(u:∀P,jg ⟨QL,(fdOf (hp P) a).scope.names,Ae ns⟩ ((ns.zip (args++(kws++t))).map (·.1))=true)(r:∀P S(x y:Nat->Value),peek (hp P) S (bindArgs (fdOf (hp P) a) ⟨(List.range args.length).map x,q.zip ((List.range kws.length).map y)⟩)=some (ns.zip ((List.range args.length).map x++((List.range kws.length).map y++s))))(g:i3 (j7 J a (Ae ns)) (List.replicate n .aF) (ns.zip (args++(kws++t)))=B):aH J (d+1) (.glob a) args q kws Q Y:=by
 subst g
 refine w7 H.ok H.pk (builtins H.ok) (H.fn M) (k:=j7 J a (Ae ns)) rfl rfl (H.bY M) n (ns.zip (args++(kws++t))) (rG H.ok (λ xs ks=>ns.zip (xs++(ks++s))) (λ S xs ks b l=> ?_) λ c h xs ks r1 r2 D=>jE.zip (r1.app (r2.app (hd c h)))) (H.bk u) w
 obtain⟨P,i⟩:=H.hK
 refine i.symm▸(pZ b).symm▸(pZ l).symm▸?_
 exact r P S _ _
theorem Hd.lB{a:Addr}{ms:List MS}{args B:ar}{X:Nat->Mem->Prop}(ns:List Str)(n:Nat)(w:wSs J pg d ms (J6 Q X) B Y)(M:∀P,NQ (hp P) a ns ms=true)(u:∀P,jg ⟨QL,(fdOf (hp P) a).scope.names,Ae ns⟩ ((ns.zip args).map (·.1))=true)(r:∀P S(x:Nat->Value),peek (hp P) S (bindArgs (fdOf (hp P) a) ⟨(List.range args.length).map x,[]⟩)=some (ns.zip ((List.range args.length).map x)))(g:i3 (j7 J a (Ae ns)) (List.replicate n .aF) (ns.zip args)=B):sr J (d+1) (.glob a) args Q X Y:=by
 subst g
 refine GZ H.ok H.pk (builtins H.ok) (H.fn M) (k:=j7 J a (Ae ns)) rfl rfl (H.bY M) n (ns.zip args) (rG (kws:=[]) H.ok (λ xs ks=>ns.zip xs) (λ S xs ks s l=> ?_) λ c h xs ks r1 r2 D=>jE.zip r1) (H.bk u) w
 obtain⟨P,q⟩:=H.hK
 refine q.symm▸(pZ s).symm▸(len0 l).symm▸?_
 exact r P S _
noncomputable def oS:List MS:=[(.assign [(.attr (.var 0) 0)] (.lit (.int 1))),(.assign [(.attr (.var 0) 1)] (.var 1)),(.assign [(.attr (.var 0) 2)] (.lit (.str [10,9,13,32]))),(.assign [(.attr (.var 0) 3)] (.list true []))]
noncomputable abbrev jH:Nat:=35
theorem mC(o v1:V)(w:wSs J pg d oS (dg Q) [o,v1] Y):aH J (d+1) (.glob jH) [o,v1] [] [] Q Y:=H.call ["self","fp"] 2 [] [] w (λ D D=>trivial) (λ D=>by kernel_rfl) (λ D=>by kernel_rfl) (λ D D D D=>by kernel_rfl) (by kernel_rfl)
noncomputable def jI:List MS:=[(.assign [(.var 1)] (.aY (.attr (.var 0) 1) 12 [(.lit (.int 1))])),(.dP (.cmp .Eq (.var 1) (.lit (.str [10]))) [(.iX (.var 0) 0 .Add (.lit (.int 1)))] []),(.ret (.var 1))]
noncomputable abbrev aZ:Nat:=42
theorem iM(o:V)(w:wSs J pg d jI (dg Q) [o,.aF] Y):aH J (d+1) (.glob aZ) [o] [] [] Q Y:=H.call ["self","ch"] 2 [] [] w (λ D D=>trivial) (λ D=>by kernel_rfl) (λ D=>by kernel_rfl) (λ D D D D=>by kernel_rfl) (by kernel_rfl)
noncomputable def j8:List MS:=[(.dP (.attr (.var 0) 3) [(.ret (.aY (.attr (.var 0) 3) 1 [(.lit (.int 0))]))] []),(.assign [(.var 1)] (.lit (.str []))),(.assign [(.var 2)] (.dX 0 (.var 0))),(.oq 3 (.var 2) [(.dP (.cmp .In (.var 3) (.attr (.var 0) 2)) [.cont] []),(.dP (.cmp .Eq (.var 3) (.lit (.str [34]))) [(.oq 3 (.var 2) [(.dP (.cmp .Eq (.var 3) (.lit (.str [34]))) [(.ret (.var 1))] [(.dP (.cmp .Eq (.var 3) (.lit (.str [92]))) [(.assign [(.var 3)] (.aY (.var 0) 15 []))] [])]),(.aug 1 .Add (.var 3))])] [(.dP (.cmp .Eq (.var 3) (.lit (.str [92]))) [(.assign [(.var 3)] (.aY (.var 0) 15 []))] []),(.aug 1 .Add (.var 3)),(.oq 3 (.var 2) [(.dP (.cmp .In (.var 3) (.attr (.var 0) 2)) [(.ret (.var 1))] [(.dP (.cmp .Eq (.var 3) (.lit (.str [92]))) [(.assign [(.var 3)] (.aY (.var 0) 15 []))] [])]),(.aug 1 .Add (.var 3))])])]),(.ret (.var 1))]
noncomputable abbrev cI:Nat:=49
theorem eH(o:V)(w:wSs J pg d j8 (dg Q) [o,.aF,.aF,.aF] Y):aH J (d+1) (.glob cI) [o] [] [] Q Y:=H.call ["self","token","fiter","ch"] 4 [] [] w (λ D D=>trivial) (λ D=>by kernel_rfl) (λ D=>by kernel_rfl) (λ D D D D=>by kernel_rfl) (by kernel_rfl)
noncomputable def jJ:List MS:=[(.expr (.aY (.attr (.var 0) 3) 0 [(.var 1)]))]
noncomputable abbrev fB:Nat:=56
theorem iN(o v1:V)(w:wSs J pg d jJ (dg Q) [o,v1] Y):aH J (d+1) (.glob fB) [o,v1] [] [] Q Y:=H.call ["self","token"] 2 [] [] w (λ D D=>trivial) (λ D=>by kernel_rfl) (λ D=>by kernel_rfl) (λ D D D D=>by kernel_rfl) (by kernel_rfl)
noncomputable def iF:List MS:=[(.dP (.call (.ck 1) [(.var 0),(.ck 2)] [] []) [(.DB [(.ret (.aY (.var 0) 6 [(.lit (.str [97,115,99,105,105]))]))])] []),(.dP (.call (.ck 1) [(.var 0),(.ck 3)] [] []) [(.ret (.var 0))] []),(.DB [.dead])]
noncomputable abbrev cN:Nat:=71
theorem dJ(o:V)(w:wSs J pg d iF (dg Q) [o] Y):aH J (d+1) (.glob cN) [o] [] [] Q Y:=H.call ["s"] 1 [] [] w (λ D D=>trivial) (λ D=>by kernel_rfl) (λ D=>by kernel_rfl) (λ D D D D=>by kernel_rfl) (by kernel_rfl)
noncomputable def p0:List MS:=[(.assign [(.var 1)] (.call (.ck 4) [(.var 0)] [] [])),(.dP (.cmp .Is (.var 1) (.ck 2)) [.dead,(.ret (.aY (.var 0) 6 [(.lit (.str [97,115,99,105,105]))]))] []),(.dP (.cmp .Is (.var 1) (.ck 5)) [(.ret (.var 0))] []),(.dP (.cmp .Is (.var 1) (.ck 6)) [(.ret (.call (.ck 5) [(.var 0)] [] []))] []),(.expr (.call (.ck 7) [(.lit (.int 0))] [] []))]
noncomputable abbrev kK:Nat:=91
theorem nA(o:V)(w:wSs J pg d p0 (dg Q) [o,.aF] Y):aH J (d+1) (.glob kK) [o] [] [] Q Y:=H.call ["data","t"] 2 [] [] w (λ D D=>trivial) (λ D=>by kernel_rfl) (λ D=>by kernel_rfl) (λ D D D D=>by kernel_rfl) (by kernel_rfl)
noncomputable def Bp:List MS:=[(.assign [(.var 1)] (.call (.ck 4) [(.var 0)] [] [])),(.dP (.cmp .Is (.var 1) (.ck 5)) [(.ret (.var 0))] []),(.dP (.cmp .Is (.var 1) (.ck 6)) [(.ret (.call (.ck 5) [(.var 0)] [] []))] []),(.expr (.call (.ck 7) [(.lit (.int 1))] [] []))]
noncomputable abbrev vD:Nat:=98
theorem xj(o:V)(w:wSs J pg d Bp (dg Q) [o,.aF] Y):aH J (d+1) (.glob vD) [o] [] [] Q Y:=H.call ["data","t"] 2 [] [] w (λ D D=>trivial) (λ D=>by kernel_rfl) (λ D=>by kernel_rfl) (λ D D D D=>by kernel_rfl) (by kernel_rfl)
noncomputable def Et:List MS:=[(.assign [(.var 1)] (.call (.ck 4) [(.var 0)] [] [])),(.dP (.Mw [(.cmp .Is (.var 0) (.lit .none)),(.cmp .Is (.var 1) (.ck 8)),(.cmp .Is (.var 1) (.ck 9)),(.cmp .Is (.var 1) (.ck 10)),(.cmp .Is (.var 1) (.ck 11)),(.cmp .Is (.var 1) (.ck 2)),(.cmp .Is (.var 1) (.ck 5)),(.cmp .Is (.var 1) (.ck 6)),(.cmp .Is (.var 1) (.ck 12)),(.cmp .Is (.var 1) (.ck 13)),(.cmp .Is (.var 1) (.ck 14)),(.cmp .Is (.var 1) (.ck 15)),(.cmp .Is (.var 1) (.ck 16)),(.cmp .Is (.var 1) (.ck 17))]) [(.ret (.EZ (.var 0) (.lit (.bool true)) (.lit (.bool false))))] []),(.expr (.call (.ck 7) [(.lit (.int 2))] [] []))]
noncomputable abbrev zy:Nat:=105
theorem zA(o:V)(w:wSs J pg d Et (dg Q) [o,.aF] Y):aH J (d+1) (.glob zy) [o] [] [] Q Y:=H.call ["x","t"] 2 [] [] w (λ D D=>trivial) (λ D=>by kernel_rfl) (λ D=>by kernel_rfl) (λ D D D D=>by kernel_rfl) (by kernel_rfl)
noncomputable def uq:List MS:=[(.dP (.pF (.lit (.int 65)) .LtE (.var 0) .LtE (.lit (.int 90))) [(.ret (.bin .Sub (.var 0) (.lit (.int 65))))] []),(.dP (.pF (.lit (.int 97)) .LtE (.var 0) .LtE (.lit (.int 122))) [(.ret (.bin .Sub (.var 0) (.lit (.int 71))))] []),(.dP (.pF (.lit (.int 48)) .LtE (.var 0) .LtE (.lit (.int 57))) [(.ret (.bin .Add (.var 0) (.lit (.int 4))))] []),(.dP (.cmp .Eq (.var 0) (.lit (.int 43))) [(.ret (.lit (.int 62)))] []),(.dP (.cmp .Eq (.var 0) (.lit (.int 47))) [(.ret (.lit (.int 63)))] []),(.ret (.lit (.int 64)))]
noncomputable abbrev oT:Nat:=112
theorem q5(o:V)(w:wSs J pg d uq (dg Q) [o] Y):aH J (d+1) (.glob oT) [o] [] [] Q Y:=H.call ["c"] 1 [] [] w (λ D D=>trivial) (λ D=>by kernel_rfl) (λ D=>by kernel_rfl) (λ D D D D=>by kernel_rfl) (by kernel_rfl)
noncomputable def ur:List MS:=[(.assign [(.var 2)] (.call (.ck 18) [(.var 0)] [] [])),(.assign [(.var 1)] (.call (.ck 19) [(.var 1)] [] [])),(.assign [(.var 3)] (.list true [])),(.assign [(.var 4)] (.lit (.int 0))),(.assign [(.var 5)] (.lit (.int 0))),(.assign [(.var 6)] (.lit (.int 0))),(.assign [(.var 7)] (.lit (.int 0))),(.eR [8] (.var 2) [(.dP (.cmp .Eq (.var 8) (.lit (.int 61))) [(.assign [(.var 6)] (.bin .Add (.var 6) (.lit (.int 1)))),(.dP (.qT [(.cmp .GtE (.var 4) (.lit (.int 2))),(.cmp .LtE (.bin .Add (.var 4) (.var 6)) (.lit (.int 4)))]) [(.assign [(.var 7)] (.bin .Add (.var 7) (.lit (.int 1)))),.cont] []),(.dP (.uf (.var 1)) [(.assign [(.var 7)] (.bin .Add (.var 7) (.lit (.int 1)))),.cont] []),(.dP (.cmp .Eq (.var 4) (.lit (.int 1))) [.brk] []),(.dP (.qT [(.cmp .Eq (.var 4) (.lit (.int 0))),(.cmp .Eq (.var 7) (.lit (.int 0)))]) [.dead] []),.dead] []),(.assign [(.var 8)] (.call (.ck 20) [(.var 8)] [] [])),(.dP (.cmp .GtE (.var 8) (.lit (.int 64))) [(.dP (.var 1) [.dead] []),(.assign [(.var 7)] (.bin .Add (.var 7) (.lit (.int 1)))),.cont] []),(.dP (.qT [(.var 6),(.var 1)]) [(.dP (.cmp .Eq (.bin .Add (.var 4) (.var 6)) (.lit (.int 4))) [.dead] []),.dead] []),(.assign [(.var 6)] (.lit (.int 0))),(.dP (.cmp .Eq (.var 4) (.lit (.int 0))) [(.assign [(.var 4)] (.lit (.int 1))),(.assign [(.var 5)] (.var 8))] [(.dP (.cmp .Eq (.var 4) (.lit (.int 1))) [(.assign [(.var 4)] (.lit (.int 2))),(.expr (.aY (.var 3) 0 [(.bin .BitOr (.bin .LShift (.var 5) (.lit (.int 2))) (.bin .RShift (.var 8) (.lit (.int 4))))])),(.assign [(.var 5)] (.bin .BitAnd (.var 8) (.lit (.int 15))))] [(.dP (.cmp .Eq (.var 4) (.lit (.int 2))) [(.assign [(.var 4)] (.lit (.int 3))),(.expr (.aY (.var 3) 0 [(.bin .BitOr (.bin .LShift (.var 5) (.lit (.int 4))) (.bin .RShift (.var 8) (.lit (.int 2))))])),(.assign [(.var 5)] (.bin .BitAnd (.var 8) (.lit (.int 3))))] [(.assign [(.var 4)] (.lit (.int 0))),(.expr (.aY (.var 3) 0 [(.bin .BitOr (.bin .LShift (.var 5) (.lit (.int 6))) (.var 8))])),(.assign [(.var 5)] (.lit (.int 0)))])])]),(.assign [(.var 7)] (.bin .Add (.var 7) (.lit (.int 1))))]),(.dP (.cmp .Eq (.var 4) (.lit (.int 1))) [.dead] []),(.dP (.qT [(.cmp .NotEq (.var 4) (.lit (.int 0))),(.cmp .Lt (.bin .Add (.var 4) (.var 6)) (.lit (.int 4)))]) [.dead] []),(.ret (.call (.ck 5) [(.var 3)] [] []))]
noncomputable abbrev oU:Nat:=120
theorem q7(o k0:V)(w:wSs J pg d ur (dg Q) [o,k0,.aF,.aF,.aF,.aF,.aF,.aF,.aF] Y):aH J (d+1) (.glob oU) [o] ["strict_mode"] [k0] Q Y:=H.call ["data","strict_mode","ascii_data","out","quad_pos","leftchar","pads","i","this_ch"] 9 [] [] w (λ D D=>trivial) (λ D=>by kernel_rfl) (λ D=>by kernel_rfl) (λ D D D D=>by kernel_rfl) (by kernel_rfl)
noncomputable def uu:List MS:=[(.assign [(.var 2)] (.call (.ck 21) [(.var 0)] [] [])),(.assign [(.var 1)] (.call (.ck 19) [(.var 1)] [] [])),(.assign [(.var 3)] (.list true [])),(.assign [(.var 4)] (.lit (.int 0))),(.assign [(.var 5)] (.lit (.int 0))),(.eR [6] (.var 2) [(.assign [(.var 5)] (.bin .BitAnd (.bin .BitOr (.bin .LShift (.var 5) (.lit (.int 8))) (.var 6)) (.lit (.int 65535)))),(.assign [(.var 4)] (.bin .Add (.var 4) (.lit (.int 8)))),(.ft (.cmp .GtE (.var 4) (.lit (.int 6))) [(.expr (.aY (.var 3) 0 [(.sub (.ck 22) (.bin .BitAnd (.bin .RShift (.var 5) (.bin .Sub (.var 4) (.lit (.int 6)))) (.lit (.int 63))))])),(.assign [(.var 4)] (.bin .Sub (.var 4) (.lit (.int 6))))] [])]),(.dP (.cmp .Eq (.var 4) (.lit (.int 2))) [(.expr (.aY (.var 3) 0 [(.sub (.ck 22) (.bin .LShift (.bin .BitAnd (.var 5) (.lit (.int 3))) (.lit (.int 4))))])),(.expr (.aY (.var 3) 0 [(.lit (.int 61))])),(.expr (.aY (.var 3) 0 [(.lit (.int 61))]))] [(.dP (.cmp .Eq (.var 4) (.lit (.int 4))) [(.expr (.aY (.var 3) 0 [(.sub (.ck 22) (.bin .LShift (.bin .BitAnd (.var 5) (.lit (.int 15))) (.lit (.int 2))))])),(.expr (.aY (.var 3) 0 [(.lit (.int 61))]))] [])]),(.dP (.var 1) [(.expr (.aY (.var 3) 0 [(.lit (.int 10))]))] []),(.ret (.call (.ck 5) [(.var 3)] [] []))]
noncomputable abbrev oV:Nat:=128
theorem q8(o k0:V)(w:wSs J pg d uu (dg Q) [o,k0,.aF,.aF,.aF,.aF,.aF] Y):aH J (d+1) (.glob oV) [o] ["newline"] [k0] Q Y:=H.call ["data","newline","bin_data","out","leftbits","leftchar","b"] 7 [] [] w (λ D D=>trivial) (λ D=>by kernel_rfl) (λ D=>by kernel_rfl) (λ D D D D=>by kernel_rfl) (by kernel_rfl)
noncomputable def xl:List MS:=[(.assign [(.var 2)] (.call (.ck 23) [(.var 0)] ["newline"] [(.lit (.bool false))])),(.dP (.cmp .IsNot (.var 1) (.lit .none)) [(.iZ (.cmp .Eq (.call (.ck 24) [(.var 1)] [] []) (.lit (.int 2)))),(.ret (.aY (.var 2) 9 [(.aY (.ck 5) 11 [(.lit (.bytes [43,47])),(.var 1)])]))] []),(.ret (.var 2))]
noncomputable abbrev lH:Nat:=136
theorem tu(o v1:V)(w:wSs J pg d xl (dg Q) [o,v1,.aF] Y):aH J (d+1) (.glob lH) [o,v1] [] [] Q Y:=H.call ["s","altchars","encoded"] 3 [] [] w (λ D D=>trivial) (λ D=>by kernel_rfl) (λ D=>by kernel_rfl) (λ D D D D=>by kernel_rfl) (by kernel_rfl)
noncomputable def xo:List MS:=[(.assign [(.var 0)] (.call (.ck 25) [(.var 0)] [] [])),(.dP (.cmp .IsNot (.var 1) (.lit .none)) [(.assign [(.var 1)] (.call (.ck 25) [(.var 1)] [] [])),(.iZ (.cmp .Eq (.call (.ck 24) [(.var 1)] [] []) (.lit (.int 2)))),(.assign [(.var 0)] (.aY (.var 0) 9 [(.aY (.ck 5) 11 [(.var 1),(.lit (.bytes [43,47]))])]))] []),(.ret (.call (.ck 26) [(.var 0)] ["strict_mode"] [(.var 2)]))]
noncomputable abbrev i5:Nat:=144
theorem tw(o v1:V)(w:wSs J pg d xo (dg Q) [o,v1,.bool false] Y):aH J (d+1) (.glob i5) [o,v1] [] [] Q Y:=H.call ["s","altchars","validate"] 3 [.bool false] [.bool false] w (λ D D=>⟨rfl,trivial⟩) (λ D=>by kernel_rfl) (λ D=>by kernel_rfl) (λ D D D D=>by kernel_rfl) (by kernel_rfl)
noncomputable def oW:List MS:=[(.assign [(.slot (.var 0) 0)] (.var 1)),(.assign [(.slot (.var 0) 1)] (.lit (.int 0))),(.assign [(.slot (.var 0) 2)] (.list true []))]
noncomputable abbrev jK:Nat:=159
theorem mD(o v1:V)(w:wSs J pg d oW (dg Q) [o,v1] Y):aH J (d+1) (.glob jK) [o,v1] [] [] Q Y:=H.call ["self","node"] 2 [] [] w (λ D D=>trivial) (λ D=>by kernel_rfl) (λ D=>by kernel_rfl) (λ D D D D=>by kernel_rfl) (by kernel_rfl)
noncomputable def iO:List MS:=[(.assign [(.attr (.var 0) 5)] .qu),(.assign [(.attr (.var 0) 6)] (.lit .none)),(.assign [(.attr (.var 0) 7)] (.lit (.int 0))),(.assign [(.attr (.var 0) 8)] (.lit (.int 0))),(.dP (.cmp .IsNot (.var 1) (.lit .none)) [.dead] [])]
noncomputable abbrev eI:Nat:=196
theorem gV(o:V)(w:wSs J pg d iO (dg Q) [o,.none] Y):aH J (d+1) (.glob eI) [o] [] [] Q Y:=H.call ["self","graph"] 2 [.none] [.none] w (λ D D=>⟨rfl,trivial⟩) (λ D=>by kernel_rfl) (λ D=>by kernel_rfl) (λ D D D D=>by kernel_rfl) (by kernel_rfl)
noncomputable def eU:List MS:=[(.u5 2 (.aY (.attr (.var 0) 5) 4 [(.var 1)]) [(.assign [(.sub (.attr (.var 0) 5) (.var 1)),(.var 2)] (.call (.ck 27) [(.var 1)] [] []))] []),(.ret (.var 2))]
noncomputable abbrev cL:Nat:=203
theorem eD(o v1:V)(w:wSs J pg d eU (dg Q) [o,v1,.aF] Y):aH J (d+1) (.glob cL) [o,v1] [] [] Q Y:=H.call ["self","node","result"] 3 [] [] w (λ D D=>trivial) (λ D=>by kernel_rfl) (λ D=>by kernel_rfl) (λ D D D D=>by kernel_rfl) (by kernel_rfl)
noncomputable def eJ:List MS:=[(.dP (.cmp .IsNot (.attr (.var 0) 6) (.lit .none)) [.dead] []),(.assign [(.var 3)] (.aY (.var 0) 21 [(.var 1)])),(.iY (.var 3) 1 .Add (.call (.ck 24) [(.var 2)] [] [])),(.eR [4] (.var 2) [(.assign [(.var 5)] (.aY (.var 0) 21 [(.var 4)])),(.expr (.aY (.slot (.var 5) 2) 0 [(.var 1)]))])]
noncomputable abbrev bz:Nat:=210
noncomputable abbrev c6:List Str:=["self","node","predecessors","nodeinfo","pred","pred_info"]
omit H in
theorem fb(P:Params):NQ (hp P) bz c6 eJ=true:=by kernel_rfl
noncomputable def gK:List MS:=[(.dP (.cmp .IsNot (.attr (.var 0) 6) (.lit .none)) [.dead] []),(.assign [(.attr (.var 0) 6)] (.comp true (.slot (.var 1) 0) [1] (.values (.attr (.var 0) 5)) [(.cmp .Eq (.slot (.var 1) 1) (.lit (.int 0)))])),(.assign [(.var 2)] (.aY (.var 0) 20 [])),(.dP (.var 2) [(.se 28 178 [(.Fo (.lit (.str [110,111,100,101,115,32,97,114,101,32,105,110,32,97,32,99,121,99,108,101]))),(.var 2)])] [])]
noncomputable abbrev cw:Nat:=215
theorem fZ{X:Nat->Mem->Prop}(o:V)(w:wSs J pg d gK (J6 Q X) [o,.aF,.aF] Y):sr J (d+1) (.glob cw) [o] Q X Y:=H.lB ["self","i","cycle"] 3 w (λ D=>by kernel_rfl) (λ D=>by kernel_rfl) (λ D D D=>by kernel_rfl) (by kernel_rfl)
noncomputable def f7:List MS:=[(.dP (.cmp .Is (.attr (.var 0) 6) (.lit .none)) [.dead] []),(.assign [(.var 1)] (.call (.ck 13) [(.attr (.var 0) 6)] [] [])),(.assign [(.var 2)] (.attr (.var 0) 5)),(.eR [3] (.var 1) [(.assign [(.slot (.sub (.var 2) (.var 3)) 1)] (.ck 29))]),(.expr (.aY (.attr (.var 0) 6) 3 [])),(.iX (.var 0) 7 .Add (.call (.ck 24) [(.var 1)] [] [])),(.ret (.var 1))]
noncomputable abbrev du:Nat:=222
theorem fC(o:V)(w:wSs J pg d f7 (dg Q) [o,.aF,.aF,.aF] Y):aH J (d+1) (.glob du) [o] [] [] Q Y:=H.call ["self","result","n2i","node"] 4 [] [] w (λ D D=>trivial) (λ D=>by kernel_rfl) (λ D=>by kernel_rfl) (λ D D D D=>by kernel_rfl) (by kernel_rfl)
noncomputable def f9:List MS:=[(.dP (.cmp .Is (.attr (.var 0) 6) (.lit .none)) [.dead] []),(.ret (.bor (.cmp .Lt (.attr (.var 0) 8) (.attr (.var 0) 7)) (.call (.ck 8) [(.attr (.var 0) 6)] [] [])))]
noncomputable abbrev dw:Nat:=229
theorem fD(o:V)(w:wSs J pg d f9 (dg Q) [o] Y):aH J (d+1) (.glob dw) [o] [] [] Q Y:=H.call ["self"] 1 [] [] w (λ D D=>trivial) (λ D=>by kernel_rfl) (λ D=>by kernel_rfl) (λ D D D D=>by kernel_rfl) (by kernel_rfl)
noncomputable def et:List MS:=[(.dP (.cmp .Is (.attr (.var 0) 6) (.lit .none)) [.dead] []),(.assign [(.var 2)] (.attr (.var 0) 5)),(.eR [3] (.var 1) [(.u5 4 (.aY (.var 2) 4 [(.var 3)]) [.dead] []),(.assign [(.var 5)] (.slot (.var 4) 1)),(.dP (.cmp .NotEq (.var 5) (.ck 29)) [(.dP (.cmp .GtE (.var 5) (.lit (.int 0))) [.dead] [(.dP (.cmp .Eq (.var 5) (.ck 30)) [.dead] [(.iZ (.lit (.bool false)))])])] []),(.assign [(.slot (.var 4) 1)] (.ck 30)),(.eR [6] (.slot (.var 4) 2) [(.assign [(.var 7)] (.sub (.var 2) (.var 6))),(.iY (.var 7) 1 .Sub (.lit (.int 1))),(.dP (.cmp .Eq (.slot (.var 7) 1) (.lit (.int 0))) [(.expr (.aY (.attr (.var 0) 6) 0 [(.var 6)]))] [])]),(.iX (.var 0) 8 .Add (.lit (.int 1)))])]
noncomputable abbrev bp:Nat:=243
noncomputable abbrev cP:List Str:=["self","nodes","n2i","node","nodeinfo","stat","successor","successor_info"]
omit H in
theorem eK(P:Params):NQ (hp P) bp cP et=true:=by kernel_rfl
noncomputable def fE:List MS:=[(.assign [(.var 1)] (.attr (.var 0) 5)),(.assign [(.var 2)] (.list true [])),(.assign [(.var 3)] (.list true [])),(.assign [(.var 4)] (.call (.ck 15) [] [] [])),(.assign [(.var 5)] .qu),(.eR [6] (.var 1) [(.dP (.cmp .In (.var 6) (.var 4)) [.cont] []),(.ft (.lit (.bool true)) [(.dP (.cmp .In (.var 6) (.var 4)) [(.dP (.cmp .In (.var 6) (.var 5)) [(.ret (.bin .Add (.slice (.var 2) (some (.sub (.var 5) (.var 6))) none) (.list false [(.var 6)])))] [])] [(.expr (.aY (.var 4) 5 [(.var 6)])),(.expr (.aY (.var 3) 0 [(.r9 0 (.slot (.sub (.var 1) (.var 6)) 2))])),(.assign [(.sub (.var 5) (.var 6))] (.call (.ck 24) [(.var 2)] [] [])),(.expr (.aY (.var 2) 0 [(.var 6)]))]),(.ft (.var 2) [(.lW 6 2 3 5 31)] [.brk])] [])]),(.ret (.lit .none))]
noncomputable abbrev c9:Nat:=250
theorem eV(o:V)(w:wSs J pg d fE (dg Q) [o,.aF,.aF,.aF,.aF,.aF,.aF] Y):aH J (d+1) (.glob c9) [o] [] [] Q Y:=H.call ["self","n2i","stack","itstack","seen","node2stacki","node"] 7 [] [] w (λ D D=>trivial) (λ D=>by kernel_rfl) (λ D=>by kernel_rfl) (λ D D D D=>by kernel_rfl) (by kernel_rfl)
noncomputable def uv:List MS:=[(.assign [(.var 1)] (.call (.ck 32) [(.lit .none)] [] [])),(.assign [(.var 2)] (.list true [])),.dead,(.assign [(.attr (.var 1) 4)] (.var 3)),(.ret (.call (.ck 32) [(.var 1)] [] []))]
noncomputable abbrev a6:Nat:=271
noncomputable def bZ:List (Str×Nat):=[("count",0),("text",1),("gone",2),("piece",3)]
noncomputable def eM:List MS:=[(.assign [(.var 3)] (.slice (.var 1) (some (.call (.ck 24) [(.var 2)] [] [])) (some (.bin .Add (.call (.ck 24) [(.var 2)] [] []) (.var 0))))),(.expr (.aY (.var 2) 2 [(.var 3)])),(.ret (.var 3))]
noncomputable abbrev jh:List Str:=["text","stream","gone","_law_piece"]
omit H in
theorem xq(P:Params):NQ (hp P) a6 jh uv=true:=by kernel_rfl
noncomputable def xt:List MS:=[(.assign [(.var 2)] (.EZ (.var 1) (.lit (.str [34,92])) (.lit (.str [34,92,32,10])))),(.assign [(.var 4)] (.aY (.lit (.str [])) 7 [(.comp false (.EZ (.cmp .In (.var 3) (.var 2)) (.bin .Add (.lit (.str [92])) (.var 3)) (.var 3)) [3] (.var 0) [])])),(.ret (.EZ (.var 1) (.bin .Add (.bin .Add (.lit (.str [34])) (.var 4)) (.lit (.str [34]))) (.var 4)))]
noncomputable abbrev lI:Nat:=276
theorem tA(o v1:V)(w:wSs J pg d xt (dg Q) [o,v1,.aF,.aF,.aF] Y):aH J (d+1) (.glob lI) [o,v1] [] [] Q Y:=H.call ["text","quoted","needy","sign","word"] 5 [] [] w (λ D D=>trivial) (λ D=>by kernel_rfl) (λ D=>by kernel_rfl) (λ D D D D=>by kernel_rfl) (by kernel_rfl)
noncomputable def uw:List MS:=[(.assign [(.var 2)] (.list true [])),(.eR [3] (.range 17 [(.lit (.int 6))]) [(.assign [(.var 4)] (.cmp .Eq (.bin .Mod (.bin .FloorDiv (.sub (.var 0) (.var 3)) (.lit (.int 64))) (.lit (.int 8))) (.lit (.int 7)))),(.assign [(.var 5)] (.list true [])),(.eR [6] (.tuple [(.bin .Mod (.sub (.var 0) (.var 3)) (.lit (.int 8))),(.bin .Mod (.bin .FloorDiv (.sub (.var 0) (.var 3)) (.lit (.int 8))) (.lit (.int 8)))]) [(.dP (.qT [(.cmp .Lt (.var 6) (.lit (.int 6))),(.Mw [(.var 4),(.cmp .Lt (.bin .Mod (.bin .Mult (.bin .Add (.var 6) (.lit (.int 1))) (.var 1)) (.lit (.int 7))) (.bin .Mod (.bin .Mult (.bin .Add (.var 3) (.lit (.int 1))) (.var 1)) (.lit (.int 7))))])]) [(.expr (.aY (.var 5) 0 [(.var 6)]))] [])]),(.expr (.aY (.var 2) 0 [(.var 5)]))]),(.ret (.var 2))]
noncomputable abbrev j9:Nat:=283
theorem q9(o v1:V)(w:wSs J pg d uw (dg Q) [o,v1,.aF,.aF,.aF,.aF,.aF] Y):aH J (d+1) (.glob j9) [o,v1] [] [] Q Y:=H.call ["numbers","factor","needs","card","free","row","need"] 7 [] [] w (λ D D=>trivial) (λ D=>by kernel_rfl) (λ D=>by kernel_rfl) (λ D D D D=>by kernel_rfl) (by kernel_rfl)
noncomputable def xu:List MS:=[(.unpack [3,4] (.tuple [(.mulM (.list false [(.lit (.int 0))]) (.lit (.int 6))),(.comp false (.EZ (.cmp .Eq (.var 2) (.var 1)) (.lit (.int 1)) (.lit (.int 0))) [2] (.range 17 [(.lit (.int 6))]) [])])),(.eR [5] (.range 17 [(.lit (.int 6))]) [(.assign [(.var 6)] (.mulM (.list false [(.lit (.int 0))]) (.lit (.int 6)))),(.eR [2] (.range 17 [(.lit (.int 6))]) [(.m7 (.var 3) (.var 2) .Add (.sub (.var 4) (.var 2))),(.eR [7] (.sub (.var 0) (.var 2)) [(.m7 (.var 6) (.var 7) .Add (.sub (.var 4) (.var 2)))])]),(.assign [(.var 4)] (.var 6))]),(.ret (.tuple [(.var 3),(.cmp .Gt (.call (.ck 33) [(.var 4)] [] []) (.lit (.int 0)))]))]
noncomputable abbrev lJ:Nat:=288
theorem tB(o v1:V)(w:wSs J pg d xu (dg Q) [o,v1,.aF,.aF,.aF,.aF,.aF,.aF] Y):aH J (d+1) (.glob lJ) [o,v1] [] [] Q Y:=H.call ["needs","card","k","total","layer","step","longer","need"] 8 [] [] w (λ D D=>trivial) (λ D=>by kernel_rfl) (λ D=>by kernel_rfl) (λ D D D D=>by kernel_rfl) (by kernel_rfl)
noncomputable def zB:List MS:=[(.assign [(.var 3)] .qu),(.eR [4] (.range 17 [(.lit (.int 6))]) [(.unpack [5,6] (.call (.ck 34) [(.var 1),(.var 4)] [] [])),(.dP (.uf (.var 6)) [(.assign [(.var 7)] (.list false [(.lit (.int 0)),(.lit (.int 0)),(.lit (.int 0)),(.lit (.int 0))])),(.eR [8] (.range 17 [(.lit (.int 6))]) [(.dP (.cmp .Eq (.bin .Mod (.sub (.var 5) (.var 8)) (.lit (.int 2))) (.lit (.int 1))) [(.assign [(.var 7)] (.comp false (.bin .BitXor (.var 9) (.var 10)) [9,10] (.zip 35 (.var 7) (.sub (.var 0) (.var 8))) []))] [])]),(.assign [(.sub (.var 3) (.var 4))] (.aY (.lit (.str [])) 7 [(.comp false (.sub (.var 2) (.var 11)) [11] (.var 7) [])]))] [])]),(.ret (.var 3))]
noncomputable abbrev nB:Nat:=293
theorem ux(o v1 v2:V)(w:wSs J pg d zB (dg Q) [o,v1,v2,.aF,.aF,.aF,.aF,.aF,.aF,.aF,.aF,.aF] Y):aH J (d+1) (.glob nB) [o,v1,v2] [] [] Q Y:=H.call ["rows","needs","face","due","card","ways","more","row","k","one","two","figure"] 12 [] [] w (λ D D=>trivial) (λ D=>by kernel_rfl) (λ D=>by kernel_rfl) (λ D D D D=>by kernel_rfl) (by kernel_rfl)
noncomputable def lK:List MS:=[(.assign [(.var 3)] (.call (.ck 36) [] [] [])),(.eR [4] (.range 17 [(.lit (.int 6))]) [(.expr (.mP (.var 3) 5 [(.var 4),(.star (.sub (.var 1) (.var 4)))]))]),(.assign [(.var 5)] (.lit (.bool false))),(.Fp [(.lB (.var 3) 16 [])] 28 178 (some (5,(.bool true)))),(.assign [(.var 6)] .qu),(.ft (.aY (.var 3) 18 []) [(.assign [(.var 7)] (.aY (.var 3) 17 [])),(.eR [4] (.var 7) [(.assign [(.var 8)] (.list false [(.lit (.int 0)),(.lit (.int 0)),(.lit (.int 0))])),(.assign [(.var 9)] (.aY (.sub (.var 0) (.var 4)) 13 [])),(.ft (.cmp .NotEq (.var 9) (.lit (.str []))) [(.assign [(.var 8)] (.comp false (.bin .BitXor (.var 10) (.var 11)) [10,11] (.zip 35 (.var 8) (.call (.ck 37) [(.var 9),(.var 2)] [] [])) [])),(.assign [(.var 9)] (.aY (.sub (.var 0) (.var 4)) 13 []))] []),(.assign [(.sub (.var 6) (.var 4))] (.aY (.call (.ck 38) [(.call (.ck 5) [(.var 8)] [] []),(.var 2)] [] []) 10 [(.lit (.str [97,115,99,105,105]))])),(.eR [12] (.range 17 [(.lit (.int 6))]) [(.eR [13] (.sub (.var 1) (.var 12)) [(.dP (.cmp .Eq (.var 13) (.var 4)) [(.expr (.aY (.sub (.var 0) (.var 12)) 14 [(.sub (.var 6) (.var 4))]))] [])])])]),(.expr (.mP (.var 3) 19 [(.star (.var 7))]))] []),(.ret (.tuple [(.var 5),(.var 6)]))]
noncomputable abbrev ji:Nat:=298
theorem p9(o v1 v2:V)(w:wSs J pg d lK (dg Q) [o,v1,v2,.aF,.aF,.aF,.aF,.aF,.aF,.aF,.aF,.aF,.aF,.aF] Y):aH J (d+1) (.glob ji) [o,v1,v2] [] [] Q Y:=H.call ["machines","needs","marks","sorter","card","refused","opened","group","octets","word","one","two","other","need"] 14 [] [] w (λ D D=>trivial) (λ D=>by kernel_rfl) (λ D=>by kernel_rfl) (λ D D D D=>by kernel_rfl) (by kernel_rfl)
noncomputable def fF:List MS:=[(.assign [(.var 2)] (.comp false (.bin .Mod (.call (.ck 9) [(.var 1)] [] []) (.bin .Pow (.lit (.int 10)) (.lit (.int 6)))) [1] (.slice (.var 0) none (some (.lit (.int 6)))) [])),(.assign [(.var 3)] (.list false [(.lit (.int 88190)),(.lit (.int 1251840)),(.lit (.int 280712)),(.lit (.int 1429713)),(.lit (.int 1221435)),(.lit (.int 1358178))])),(.assign [(.var 5)] (.comp false (.bin .Add (.var 4) (.var 1)) [4,1] (.zip 35 (.var 3) (.bin .Add (.var 2) (.bin .Mult (.list false [(.lit (.int 0))]) (.lit (.int 6))))) [])),(.assign [(.var 6)] (.call (.ck 39) [(.var 5),(.bin .Add (.lit (.int 1)) (.bin .Mod (.call (.ck 33) [(.var 2)] [] []) (.lit (.int 6))))] [] [])),(.assign [(.var 7)] (.sub (.list false [(.lit (.str [34,32])),(.lit (.str [92,34])),(.lit (.str [32,92])),(.lit (.str [34,92])),(.lit (.str [10,34])),(.lit (.str [92,10]))]) (.bin .Mod (.bin .FloorDiv (.call (.ck 33) [(.var 2)] [] []) (.lit (.int 6))) (.lit (.int 6))))),(.assign [(.var 8)] (.bin .Add (.lit (.str [65,66,67,68,69,70,71,72,73,74,75,76,77,78,79,80,81,82,83,84,85,86,87,88,89,90,97,98,99,100,101,102,103,104,105,106,107,108,109,110,111,112,113,114,115,116,117,118,119,120,121,122,48,49,50,51,52,53,54,55,56,57])) (.var 7))),(.assign [(.var 9)] (.list false [(.lit (.int 0)),(.lit (.int 1)),(.lit (.int 60)),(.lit (.int 61)),(.lit (.int 62)),(.lit (.int 63)),(.lit (.int 62)),(.lit (.int 63))])),(.assign [(.var 12)] (.comp false (.comp false (.sub (.var 9) (.bin .Mod (.bin .FloorDiv (.bin .FloorDiv (.var 10) (.lit (.int 512))) (.bin .Pow (.lit (.int 8)) (.var 11))) (.lit (.int 8)))) [11] (.range 17 [(.lit (.int 4))]) []) [10] (.var 5) [])),(.assign [(.var 15)] (.comp false (.aY (.lit (.str [])) 7 [(.comp false (.sub (.var 8) (.var 14)) [14] (.var 13) [])]) [13] (.var 12) [])),(.assign [(.var 17)] (.comp false (.call (.ck 40) [(.bin .Add (.call (.ck 41) [(.sub (.var 15) (.var 16)),(.cmp .Eq (.bin .Mod (.bin .FloorDiv (.sub (.var 5) (.var 16)) (.lit (.int 64))) (.lit (.int 2))) (.lit (.int 1)))] [] []) (.lit (.str [10])))] [] []) [16] (.range 17 [(.lit (.int 6))]) [])),(.assign [(.var 18)] (.call (.ck 42) [(.var 12),(.var 6),(.var 8)] [] [])),(.dP (.cmp .NotEq (.call (.ck 43) [(.var 17),(.var 6),(.aY (.var 7) 6 [(.lit (.str [97,115,99,105,105]))])] [] []) (.tuple [(.cmp .Lt (.call (.ck 24) [(.var 18)] [] []) (.lit (.int 6))),(.var 18)])) [(.ret (.lit (.bool false)))] []),(.assign [(.var 20)] (.comp false (.call (.ck 44) [(.attr (.var 19) 3)] [] []) [19] (.var 17) [])),(.ret (.cmp .Eq (.var 20) (.comp false (.call (.ck 44) [(.comp true (.sub (.var 18) (.var 21)) [21] (.sub (.var 6) (.var 16)) [(.qT [(.cmp .In (.var 21) (.var 18)),(.cmp .NotIn (.var 16) (.var 18))])])] [] []) [16] (.range 17 [(.lit (.int 6))]) [])))]
noncomputable abbrev tC:Nat:=303
theorem Hx(o:V)(w:wSs J pg d fF (dg Q) [o,.aF,.aF,.aF,.aF,.aF,.aF,.aF,.aF,.aF,.aF,.aF,.aF,.aF,.aF,.aF,.aF,.aF,.aF,.aF,.aF,.aF] Y):aH J (d+1) (.glob tC) [o] [] [] Q Y:=H.call ["script","cell","cells","starts","start","numbers","needs","marks","face","pool","number","place","rows","row","figure","words","k","machines","due","machine","waiting","need"] 22 [] [] w (λ D D=>trivial) (λ D=>by kernel_rfl) (λ D=>by kernel_rfl) (λ D D D D=>by kernel_rfl) (by kernel_rfl)
end
theorem jE.append{vs o:List (Str×V)}{bs f:List (Str×Value)}(p:jE c h vs bs)(q:jE c h o f):jE c h (vs++o) (bs++f):=by
 induction vs generalizing bs with
 |nil=>induction bs using List.casesOn with
  |nil=>exact q
  |cons=>exact p.elim
 |cons v vs y=>induction bs using List.casesOn with
  |nil=>exact p.elim
  |cons b bs=>exact⟨p.1,p.2.1,y p.2.2⟩
theorem CE(ok:bA J){v:FuncData}{ps:List Str}{va:Str}{a1 a2:ar}(L:short a2=true)(hp:∀(xs ys:aL),xs.length=a1.length->bindArgs v ⟨xs++ys,[]⟩=newTuple ys>>=λ t=>pure (ps.zip xs++[(va,t)]))(A:Around)(E:dR)(c:Vw)(s:Shared)(xs:aL)(ks:List (Str×Value))(R:Rel J c s)(j:c.Y=Y)(G:ay c s.heap (a1++a2) xs)(U:c8 c s.heap [] [] ks):wpAny J.ax A (bindArgs v ⟨xs,ks⟩) (LB J c s Y (ps.zip a1++[(va,.tuple a2)])) E s:=by
 refine U.no.symm▸?_
 have N:=G.length
 rw[bU]at N
 rw[<-List.take_append_drop a1.length xs]at G⊢
 have t1:(xs.take a1.length).length=a1.length:=List.length_take_of_le (N▸au ..)
 have r1:ay c s.heap a1 (xs.take a1.length):=by have:=G.take a1.length;rwa[List.take_left,List.take_left' t1]at this
 have r2:ay c s.heap a2 (xs.drop a1.length):=by have:=G.drop a1.length;rwa[List.drop_left,List.drop_left' t1]at this
 refine(hp _ (xs.drop a1.length) t1).symm▸?_
 have S:=R.push {cls:= .type "tuple",data:= .seq (xs.drop a1.length).toArray} s.toks
 exact ag (wpAny_newTuple (hsz:=by
  refine r2.length▸aQ.symm▸?_
  exact aa (ae L) (by decide)) (aA ⟨c,S,j,jE.append (jE.zip (r1.carry S.carry)) ⟨rfl,⟨s.heap.objs.size,xs.drop a1.length,rfl,⟨0,bM _ rfl⟩,nY R,r2.carry S.carry⟩,trivial⟩⟩))
theorem iG(H:Hd J)(o v1:V)(ps:ar)(L:short ps=true)(w:wSs J pg d eJ (dg Q) [o,v1,.tuple ps,.aF,.aF,.aF] Y):aH J (d+1) (.glob bz) (o::v1::ps) [] [] Q Y:=by
 refine w7 H.ok H.pk (builtins H.ok) (H.fn fb) (k:=j7 J bz (Ae c6)) rfl rfl (H.bY fb) (args:=[o,v1]++ps) 6 ([(("self":Str),o),(("node":Str),v1),(("predecessors":Str),.tuple ps)]) (CE H.ok L (ps:=["self","node"]) (va:="predecessors") (a1:=[o,v1]) ?_) ?_ ?_
 ·intro xs ys M
  obtain⟨g,m,rfl⟩:=Ua M
  obtain⟨P,q⟩:=H.hK
  refine q.symm▸?_
  induction ys<;>kernel_rfl
 ·obtain⟨P,q⟩:=H.hK
  delta j7
  rw[q];kernel_rfl
 ·have e:i3 (j7 J bz (Ae c6)) (List.replicate 6 .aF) ([(("self":Str),o),(("node":Str),v1),(("predecessors":Str),.tuple ps)])=[o,v1,.tuple ps,.aF,.aF,.aF]:=by kernel_rfl
  exact e▸w
theorem gW(H:Hd J)(o:V)(ps:ar)(L:short ps=true)(w:wSs J pg d et (dg Q) [o,.tuple ps,.aF,.aF,.aF,.aF,.aF,.aF] Y):aH J (d+1) (.glob bp) (o::ps) [] [] Q Y:=by
 refine w7 H.ok H.pk (builtins H.ok) (H.fn eK) (k:=j7 J bp (Ae cP)) rfl rfl (H.bY eK) (args:=[o]++ps) 8 ([(("self":Str),o),(("nodes":Str),.tuple ps)]) (CE H.ok L (ps:=["self"]) (va:="nodes") (a1:=[o]) ?_) ?_ ?_
 ·intro xs ys M
  obtain⟨g,rfl⟩:=Es M
  obtain⟨P,q⟩:=H.hK
  refine q.symm▸?_
  induction ys<;>kernel_rfl
 ·obtain⟨P,q⟩:=H.hK
  delta j7
  rw[q];kernel_rfl
 ·have e:i3 (j7 J bp (Ae cP)) (List.replicate 8 .aF) ([(("self":Str),o),(("nodes":Str),.tuple ps)])=[o,.tuple ps,.aF,.aF,.aF,.aF,.aF,.aF]:=by kernel_rfl
  exact e▸w
noncomputable def stN(K:Frag)(fa i:Nat):PySem.Stmt:=(bodyOf (fdOf K fa)).getD i (.Pass ⟨0,0,0,0⟩)
noncomputable abbrev cz(J:Cx):PySem.Stmt:=stN J.K a6 2
noncomputable abbrev rH:Str:="_law_lexer.<locals>._law_piece"
structure pn(J:Cx):Prop where
 hd:Hd J
 lx:∃mg,zw J mg 270 ⟨314,4,317,20⟩
 qn:J.qual=rH
 cl:∀kk fd,J.t5 kk fd↔kk=0/\∃a1 a2 c' tq doc pm,fd=fnX "_law_piece" rH (IZ (cz J)) (uN (cz J)) (lh (cz J)) [(("text":Str),a1),(("gone":Str),a2)] .none .none doc pm none (.ref c') tq
theorem rb(H:pn J){i:Nat}(s v1 v2:V)(hi:Y.f i= .t5 0 [v1,v2])(w:wSs J pg d eM (dg Q) [s,v1,v2,.aF] Y):aH J (d+1) (.ref i) [s] [] [] Q Y:=by
 have a:∀o,J.t5 0 o->Hk o (lh (cz J)) (uN (cz J)) ["text","gone"]:=by
  intro o h
  obtain⟨D,a1,a2,G,E,doc,b,rfl⟩:=(H.cl 0 o).mp h
  obtain⟨P,q⟩:=H.hd.hK
  refine⟨rfl,?_,?_,rfl,rfl,rfl,?_,?_,rfl,by decide+kernel,?_⟩
  ·unfold cz;rw[q];kernel_rfl
  ·unfold cz;rw[q];kernel_rfl
  ·unfold cz;rw[q];kernel_rfl
  ·unfold cz;exact q▸ae (by kernel_rfl)
  ·intro x
   have e:(lh (cz J)).names=[(("count":Str),.local),(("piece":Str),.local),(("gone":Str),.free),(("text":Str),.free),(("len":Str),.globalImplicit)]:=by
    unfold cz;rw[q];kernel_rfl
   rw[e]
   simp
   exact or_comm
 refine Hl H.hd.ok H.hd.pk (builtins H.hd.ok) a rfl (k:=⟨pg.G,(lh (cz J)).names,bZ⟩) rfl rfl (ms:=eM) ?_ hi [.aF,v1,v2,.aF] [(("count":Str),s)] ?_ ?_ ?_ ?_
 ·obtain⟨P,q⟩:=H.hd.hK
  unfold cz;rw[q];kernel_rfl
 ·intro x j v M u
  have hm:(x,j)∈bZ:=lookup_mem M
  simp only[bZ,bg,Prod.mk.injEq,dt,or_false]at hm
  rcases hm with⟨rfl,rfl⟩|⟨rfl,rfl⟩|⟨rfl,rfl⟩|⟨rfl,rfl⟩
  ·left;exact aM u.symm
  ·right;exact⟨0,rfl,by exact u⟩
  ·right;exact⟨1,rfl,by exact u⟩
  ·left;exact aM u.symm
 ·intro o h
  obtain⟨D,a1,a2,G,E,doc,b,rfl⟩:=(H.cl 0 o).mp h
  refine rG H.hd.ok (λ xs ks=>[(("count":Str),xs.getD 0 .none)]) ?_ ?_
  ·intro S xs ks M u
   obtain⟨g,rfl⟩:=Es M
   cases len0 u
   obtain⟨P,q⟩:=H.hd.hK
   delta cz;refine q.symm▸?_;kernel_rfl
  ·intro c h xs ks r1 r2 D
   obtain⟨g,rfl⟩:=Es r1.length.symm
   exact⟨rfl,r1.1,trivial⟩
 ·obtain⟨P,q⟩:=H.hd.hK
  delta cz;rw[q];kernel_rfl
 ·have e:i3 ⟨pg.G,(lh (cz J)).names,bZ⟩ [.aF,v1,v2,.aF] [(("count":Str),s)]=[s,v1,v2,.aF]:=by kernel_rfl
  exact e▸w
noncomputable def LM:MS:= .assign [.var 1] (.call (.ck 32) [.lit .none] [] [])
noncomputable def LN:MS:= .assign [.var 2] (.list true [])
theorem Hy(H:pn J):bodyOf (fdOf J.K a6)=[stN J.K a6 0,stN J.K a6 1,.FunctionDef "_law_piece" (IZ (cz J)) (uN (cz J)) [] none [] (lh (cz J)) none "_law_piece" ⟨314,4,317,20⟩,.Assign [.Attribute (.Name "stream" ⟨318,4,318,10⟩) "read" ⟨318,4,318,15⟩] (.Name "_law_piece" ⟨318,18,318,28⟩) ⟨318,4,318,28⟩,.Return (some (.Call (.Name "_netrclex" ⟨319,11,319,20⟩) [.Name "stream" ⟨319,21,319,27⟩] [] ⟨319,11,319,28⟩)) ⟨319,4,319,28⟩]:=by
 obtain⟨P,q⟩:=H.hd.hK
 delta cz;refine q.symm▸?_;kernel_rfl
theorem rg(H:pn J)(o:V)(w:wS J pg d LM (λ x B Y=>x= .next/\wS J pg d LN (λ x B σ'=>x= .next/\NH J pg d 0 2 1 0 59 Q B σ') B Y) [o,.aF,.aF,.aF] Y):aH J (d+1) (.glob a6) [o] [] [] Q Y:=by
 obtain⟨P,q⟩:=H.hd.hK
 obtain⟨mg,a⟩:=H.lx
 have F:=H.hd.fn xq
 rw[Hy H]at F
 refine Hp H.hd.ok H.hd.pk (builtins H.hd.ok) F a ?_ ?_ ?_ (n1:="text") (n2:="gone") (kk:=0) (j1:=0) (j2:=2) (js:=1) (Cn:=59) (gi:=32) ?_ ?_ ?_ ?_ ?_ ?_ ?_ ?_ ?_ (k:=j7 J a6 (Ae jh)) rfl rfl ?_ ?_ ?_ ?_ (t1:=LM) (t2:=LN) ?_ ?_ 4 [(("text":Str),o)] (rG H.hd.ok (λ xs ks=>[(("text":Str),xs.getD 0 .none)]) ?_ ?_) ?_ ?_
 ·rw[q];kernel_rfl
 ·unfold cz;rw[q];kernel_rfl
 ·unfold cz;rw[q];kernel_rfl
 ·intro L;rw[H.qn,q];kernel_rfl
 ·intro L;unfold cz;rw[q];kernel_rfl
 ·intro L a1 a2 M u
  have s:(fEnv (fdOf J.K a6).scope [] L ((fdOf J.K a6).qualname++".<locals>.") a6 (fdOf J.K a6).code).cells.lookup ("text":Str)=some (L+1):=by rw[q];kernel_rfl
  have l:(fEnv (fdOf J.K a6).scope [] L ((fdOf J.K a6).qualname++".<locals>.") a6 (fdOf J.K a6).code).cells.lookup ("gone":Str)=some (L+1+1):=by rw[q];kernel_rfl
  rw[s]at M;rw[l]at u
  obtain rfl:=aM M;obtain rfl:=aM u
  unfold cz;rw[q];kernel_rfl
 ·rw[q];kernel_rfl
 ·rw[q];kernel_rfl
 ·rw[q];kernel_rfl
 ·rw[q];kernel_rfl
 ·rw[q];kernel_rfl
 ·intro a1 a2 G E doc
  refine(H.cl 0 _).mpr ⟨rfl,a1,a2,G,E,doc,(mg "__name__").getD .none,?_⟩
  rw[H.qn]
 ·kernel_rfl
 ·kernel_rfl
 ·kernel_rfl
 ·kernel_rfl
 ·unfold j7;rw[q];kernel_rfl
 ·delta j7;refine q.symm▸?_;kernel_rfl
 ·intro S xs ks M u
  obtain⟨g,rfl⟩:=Es M
  cases len0 u
  refine q.symm▸?_;kernel_rfl
 ·intro c h xs ks r1 r2 D
  obtain⟨g,rfl⟩:=Es r1.length.symm
  exact⟨rfl,r1.1,trivial⟩
 ·delta j7;rw[q];kernel_rfl
 ·have e:i3 (j7 J a6 (Ae jh)) (List.replicate 4 .aF) [(("text":Str),o)]=[o,.aF,.aF,.aF]:=by kernel_rfl
  exact e▸w
noncomputable def Bq(K:Frag):PySem.Stmt:=stN K a6 2
noncomputable def Eu(prog:Program)(w:World)(K:Frag)(p:Shared):Cx where
 prog:=prog
 w:=w
 K:=K
 h₀:=p.heap
 os:=p.os
 P:=266
 ps:= #[]
 line:=314
 col:=4
 qual:=rH
 t5:=λ kk v=>kk=0/\∃a1 a2 G E doc a,v=fnX "_law_piece" rH (IZ (Bq K)) (uN (Bq K)) (lh (Bq K)) [(("text":Str),a1),(("gone":Str),a2)] .none .none doc a none (.ref G) E
noncomputable def NR:Mem:=⟨0,λ D=> .dead⟩
noncomputable def OO:Vw:=⟨λ D=>0,λ D=>[],[],[],[],NR⟩
theorem LP(b:Addr):¬OO.T b:=λ⟨i,h,_⟩=>absurd h.1 (Nat.not_lt_zero i)
theorem ofPys_ints:∀ns:List Int,ofPys (ns.map PyData.int)=ns.map WData.int
 |[]=>rfl
 |n::ns=>aE (WData.int n::·) (ofPys_ints ns)
theorem Ew{P:Params}{a:Addr}{ns:List Int}(w:Well P h (.ref a) (ofPy (PyData.list (ns.map .int)))):∃g,SeqAt h "list" a g/\ay OO h (ns.map V.int) g:=by
 have e:ofPy (PyData.list (ns.map .int))= .list (ns.map .int):=by
  refine(?_:WData.list (ofPys (ns.map .int))=_)
  rw[ofPys_ints]
 rw[e]at w
 cases w with
 |list c m=>
  rename_i vs
  refine⟨vs,⟨0,c⟩,?_⟩
  clear c e
  induction ns generalizing vs with
  |nil=>cases m;trivial
  |cons n ns y=>
   cases m with
   |cons M u=>
    refine⟨?_,y u⟩
    cases M
    exact⟨_,rfl⟩
theorem Kh{prog:Program}{w:World}{m:Shared}{K:Frag}{mg mb:Str->Option Value}{fa a:Addr}{ns:List Int}(q:K=hp w.params)(M:K.In m.heap)(k:m.heap.get? 266=some (tabObj #[]))(Q:m.heap.Ns mainGlobals mg)(I:m.heap.Ns builtinsNs mb)(L:∀x:Str,x≠"__name__"->mb x=bootBuiltins x)(bm:∃bm A,mg "__builtins__"=some (.ref bm)/\bm≠builtinsNs/\m.heap.get? bm=some A/\A.cls= .type "module"/\A.dict=some builtinsNs/\A.data= .plain)(C:mg "law"=some (.ref fa))(z:m.gens= #[])(f:Well w.params m.heap (.ref a) (ofPy (PyData.list (ns.map .int))))(main:∀J,pn J->aH J 60 (.glob tC) [.list (ns.map .int)] [] [] (λ v D=>v= .bool true) NR):codeAny (model prog w) callerA (.call (.ref fa) ⟨[.ref a],[]⟩) (λ r s'=>r= .ok (.ret (.bool true))/\OldK m.heap s'.heap/\s'.os=m.os/\s'.gens= #[]) m:=by
 have y:K.lookup 266=none:=by refine q.symm▸?_;kernel_rfl
 have nP:∀a o,K.lookup a=some o->a≠266:=λ a o h e=>by rw[e,y]at h;exact nn h
 have XB:fa=tC:=by
  have:=mg_of (n:="law") (v:= .ref tC) M Q (by refine q.symm▸?_;kernel_rfl)
  rw[C]at this;cases this;rfl
 subst XB
 have ok:bA (Eu prog w K m):=⟨λ a o h=>⟨M a o h,nP a o h⟩,gQ (by decide) (cD k),⟨{cls:= .none,data:= .dict #[] 0},by refine(?_:K.lookup 2=_);refine q.symm▸?_;kernel_rfl,rfl⟩⟩
 have pk:cM (Eu prog w K m) pg:=Ke ok (mg:=mg) (mb:=mb) Q I L (by refine(?_:(3:Nat)≠266);decide) (by refine(?_:(0:Nat)≠266);decide) (by refine(?_:(pg.G.all λ p=>Hs K p.1 p.2)=true);refine q.symm▸?_;kernel_rfl) (by refine(?_:pg.insts.all (instChk K)=true);refine q.symm▸?_;kernel_rfl)
  (by refine(?_:rz K pg.sh=true);refine q.symm▸?_;kernel_rfl) (by refine(?_:pg.meths.all (CB K)=true);refine q.symm▸?_;kernel_rfl) (by refine(?_:pg.DC.all (Bo K)=true);refine q.symm▸?_;kernel_rfl)
 have hd:Hd (Eu prog w K m):=⟨⟨w.params,q⟩,ok,pk⟩
 have d:zw (Eu prog w K m) mg 270 ⟨314,4,317,20⟩:=by
  refine⟨λ c s R=>⟨?_,?_,?_⟩,trivial,rfl,rfl,rfl,by refine(?_:(3:Nat)≠266);decide⟩
  ·obtain⟨o,es,ep,E,r⟩:=Q
   exact⟨o,es,ep,R.base _ _ E (by refine(?_:(3:Nat)≠266);decide),r⟩
  ·obtain⟨b,A,G,u,l,g,h5,T⟩:=bm
   have n1:b≠mainGlobals:=λ e=>by
    obtain⟨o,es,ep,E,pj,D⟩:=Q
    rw[e,E]at l;obtain rfl:=aM l;rw[pj]at T;cases T
   have n2:b≠266:=λ e=>by rw[e,k]at l;obtain rfl:=aM l;cases T
   exact⟨b,A,G,u,n1,n2,R.base _ _ l n2,g,h5,T⟩
  ·exact codeHd_of_K (R.K ok) (by refine(?_:codeHdIn K 270 266=true);refine q.symm▸?_;kernel_rfl)
 have H:pn (Eu prog w K m):=⟨hd,⟨mg,d⟩,rfl,λ kk fd=>Iff.rfl⟩
 have R:Rel (Eu prog w K m) OO m:=
  {base:=λ b o e D=>e,tab:= .inl k,lq:=⟨_,k,rfl⟩,size:=ai _,obj:=λ i hi=>absurd hi (Nat.not_lt_zero i),apart:=λ i j hi=>absurd hi.1 (Nat.not_lt_zero i),high:=λ b t=>absurd t (LP b),
   nJ:=(λ b U=>by exact absurd U dt),eB:=(λ b U=>by exact absurd U dt),d8:=(λ b U=>by exact absurd U dt),gens:=z,os:=rfl}
 obtain⟨aK,hs,hv⟩:=Ew f
 have nN:¬OO.N a:=by
  rintro(t|t|t)
  ·exact LP a t
  ·exact absurd t dt
  ·exact absurd t dt
 have sk:vZ callerA OO:=⟨[],rfl,λ e he=>by exact absurd he dt⟩
 have rm:ja 60 callerA:=⟨rfl,by refine(?_:1+claimMargin+8*60<800);decide,by decide⟩
 obtain⟨D,ev⟩:=main _ H callerA OO m (.ref tC) [.ref a] [] rm sk rfl R rfl ⟨⟨a,aK,rfl,hs,nN,hv⟩,trivial⟩ trivial
 refine codeAny_mono ev λ r s' hr=> ?_
 obtain⟨x,c',v,rfl,S,N,rfl⟩:=hr
 have N:x= .bool true:=N
 subst N
 refine⟨rfl,⟨λ b o e=> ?_,λ b o e=> ?_⟩,S.rel.os,S.rel.gens⟩
 ·by_cases U:b=266
  ·subst U
   rcases S.rel.tab with t|⟨c₂,hc,t,D⟩
   ·left;rw[k]at e;obtain rfl:=aM e;exact t
   ·right;left
    rw[k]at e;obtain rfl:=aM e
    obtain⟨o,vs,D,D,D,D,D,D,D,G,u,l,g,D⟩:=codeHd_of_K (c:=270) (P:=266) M (by refine q.symm▸?_;kernel_rfl)
    exact⟨⟨270,o,vs,G,u,l,g⟩,rfl,#[],_,rfl,t⟩
  ·left;exact S.rel.base b o e U
 ·by_cases U:b=266
  ·subst U
   rcases S.rel.tab with t|⟨c₂,hc,t,D⟩
   ·exact⟨_,t⟩
   ·exact⟨_,t⟩
  ·exact⟨o,S.rel.base b o e U⟩
theorem aB{α:Sort _}{Q:α->Prop}(K:α)(k:Q K):Q K:=k
section
noncomputable def Ev(J:Cx)(d:Nat)(e:ME)(B:ar)(Y:Mem)(v:V):Prop:=∀K:eY,K v Y->wE J pg d e K B Y
noncomputable def R5(J:Cx)(d:Nat)(e:ME)(B:ar)(Y:Mem)(v:V)(σ':Mem):Prop:=∀K:eY,K v σ'->wE J pg d e K B Y
noncomputable def gD(J:Cx)(d:Nat)(es:List ME)(B:ar)(Y:Mem)(vs:ar):Prop:=∀K:ar->Mem->Prop,K vs Y->wEs J pg d es K B Y
theorem cX{α:Type}{x:Option α}{a:α}{Q:α->Prop}(h:x=some a)(k:Q a):opt x Q:=by exact h▸k
theorem Ev.bin{op:Operator}{a b:ME}{va vb v:V}(z:Ev J d a B Y va)(U:Ev J d b B Y vb)(h:mn Y op va vb=some v):Ev J d (.bin op a b) B Y v:=λ K k=>z _ (U _ (cX h k))
theorem Ev.cmp{op:CmpOp}{a b:ME}{va vb:V}{q:Bool}(z:Ev J d a B Y va)(U:Ev J d b B Y vb)(h:mq Y op va vb=some q):Ev J d (.cmp op a b) B Y (.bool q):=λ K k=>z _ (U _ (cX h k))
theorem Ev.sub{a b:ME}{va vb v:V}(z:Ev J d a B Y va)(U:Ev J d b B Y vb)(h:gA Y va vb=some v):Ev J d (.sub a b) B Y v:=λ K k=>z _ (U _ (cX h k))
theorem Ev.uf{a:ME}{va:V}{q:Bool}(z:Ev J d a B Y va)(h:b6 Y va=some q):Ev J d (.uf a) B Y (.bool (!q)):=λ K k=>z _ (cX h k)
theorem Ex{e:ME}{K:eY}{v:V}(he:Ev J d e B Y v)(k:K v Y):wE J pg d e K B Y:=he _ k
noncomputable def nx(J:Cx)(d:Nat)(r:List MS)(Q:Fl->ar->Mem->Prop):Fl->ar->Mem->Prop:=λ x B Y=>match x with
 | .next=>wSs J pg d r Q B Y
 |x=>Q x B Y
variable{r:List MS}{Q:Fl->ar->Mem->Prop}
theorem gE{st:MS}(h:wS J pg d st (nx J d r Q) B Y):wSs J pg d (st::r) Q B Y:=h
theorem eO(h:wSs J pg d r Q B Y):wSs J pg d [] (nx J d r Q) B Y:=h
theorem Hz(h:wSs J pg d r Q B Y):wSs J pg d [] (nx J d [] (nx J d r Q)) B Y:=h
theorem cH{i:Nat}{e:ME}{v:V}(he:Ev J d e B Y v)(h:wSs J pg d r Q (B.set i v) Y):wSs J pg d (.assign [.var i] e::r) Q B Y:=he _ h
theorem rh{i:Nat}{e:ME}{v:V}{σ':Mem}(he:R5 J d e B Y v σ')(h:wSs J pg d r Q (B.set i v) σ'):wSs J pg d (.assign [.var i] e::r) Q B Y:=he _ h
theorem HA{t:ME}{a b:List MS}(v:V)(q:Bool)(u:Ev J d t B Y v)(n:b6 Y v=some q)(M:q=true->wSs J pg d a (nx J d r Q) B Y)(H:q=false->wSs J pg d b (nx J d r Q) B Y):wSs J pg d (.dP t a b::r) Q B Y:=u _ (cX n (by induction q;exact H rfl;exact M rfl))
theorem qa{t:ME}{a b:List MS}(q:Bool)(u:Ev J d t B Y (.bool q))(M:q=true->wSs J pg d a (nx J d r Q) B Y)(H:q=false->wSs J pg d b (nx J d r Q) B Y):wSs J pg d (.dP t a b::r) Q B Y:=HA _ q u rfl M H
theorem QM{a b:Nat}(e:((a:Int)==(b:Int))=true):a=b:=Int.ofNat.inj (bh e)
theorem NS{a b:Nat}(e:((a:Int)==(b:Int))=false):a≠b:=λ h=>ne_of_beq_false e (aE Int.ofNat h)
theorem Ki{a b:Nat}(e:decide ((a:Int)<=(b:Int))=true):a<=b:=gq.mp (ae e)
theorem NT{a b:Nat}(e:decide ((a:Int)<=(b:Int))=false):b<a:=Nat.lt_of_not_le λ h=>of_decide_eq_false e (gq.mpr h)
theorem lL{s t:ME}{a b:List MS}{x n:Nat}(L:Ev J d s B Y (.int (x:Int)))(u:Ev J d t B Y (.int (n:Int)))(M:x=n->wSs J pg d a (nx J d r Q) B Y)(H:x≠n->wSs J pg d b (nx J d r Q) B Y):wSs J pg d (.dP (.cmp .Eq s t) a b::r) Q B Y:=qa _ (.cmp L u rfl) (λ e=>M (QM e)) λ e=>H (NS e)
theorem zC{α:Type}{step:V->(Fl->ar->Mem->Prop)->ar->Mem->Prop}{g:Mem->Prop}{Q:Fl->ar->Mem->Prop}(e:α->V)(I:List α->ar->Mem->Prop)(c:∀rest B Y,I rest B Y->g Y)(L:∀a rest B Y(K:Fl->ar->Mem->Prop),I (a::rest) B Y->(∀q σ',I rest q σ'->K .next q σ'/\K .cont q σ')->step (e a) K B Y)(he:∀B Y,I [] B Y->Q .next B Y)(l:List α):∀B Y,I l B Y->forLoop step g (l.map e) Q B Y:=by
 induction l with
 |nil=>exact λ B Y h=>⟨c _ _ _ h,he _ _ h⟩
 |cons a l y=>exact λ B Y h=>⟨c _ _ _ h,L a l B Y _ h λ q σ' h'=>⟨y q σ' h',y q σ' h'⟩⟩
theorem lM{α:Type}(e:α->V){i:Nat}{it:ME}{body:List MS}{vi:V}{l:List α}{g:Mem->Prop}(hit:Ev J d it B Y vi)(u:jw Y vi=some (false,l.map e,g))(I:List α->ar->Mem->Prop)(o:I l B Y)(c:∀rest B Y,I rest B Y->g Y)(L:∀a rest B Y(K:Fl->ar->Mem->Prop),I (a::rest) B Y->(∀q σ',I rest q σ'->K .next q σ'/\K .cont q σ')->wSs J pg d body K (B.set i (e a)) Y)(he:∀B Y,I [] B Y->wSs J pg d r Q B Y):wSs J pg d (.eR [i] it body::r) Q B Y:=hit _ (cX u (zC (step:=λ v K B Y=>opt (lE false [i] v B) λ q=>wSs J pg d body K q Y) (Q:=nx J d r Q) e I c L he l B Y o))
inductive Turn(J:Cx)(d:Nat)(t:ME)(body xY r:List MS)(Q:Fl->ar->Mem->Prop)(I:Nat->ar->Mem->Prop)(n:Nat)(B:ar)(Y:Mem):Prop where
 |mk (v:V) (q:Bool) (h1:Ev J d t B Y v) (hv:b6 Y v=some q) (h2:q=true->∀K:Fl->ar->Mem->Prop,(∀m bj σ',m<n->I m bj σ'->K .next bj σ'/\K .cont bj σ')->(∀bj σ',wSs J pg d r Q bj σ'->K .brk bj σ')->wSs J pg d body K B Y) (h3:q=false->wSs J pg d xY (K7 (nx J d r Q)) B Y):Turn J d t body xY r Q I n B Y
theorem xw{t:ME}{body H:List MS}(I:Nat->ar->Mem->Prop)(n:Nat)(i:I n B Y)(L:∀n B Y,I n B Y->Turn J d t body H r Q I n B Y):wSs J pg d (.ft t body H::r) Q B Y:=gE ⟨I,n,i,λ n B Y h=>by
  obtain⟨v,q,M,j,u,l⟩:=L n B Y h
  refine M _ (cX j ?_)
  induction q with
  |true=>exact u rfl _ (λ m a σ' hm hi=>⟨⟨m,hm,hi⟩,⟨m,hm,hi⟩⟩) λ a σ' w=>w
  |false=>exact l rfl⟩
theorem gG{α z:Type}(f:α->z)(l:List α):l.flatMap (λ a=>[f a])=l.map f:=by
 induction l with
 |nil=>rfl
 |cons a l y=>refine List.flatMap_cons.symm▸y.symm▸?_;rfl
theorem gX{α:Type}{step:V->(ar->Mem->Prop)->Mem->Prop}{g:Mem->Prop}{K:ar->Mem->Prop}(e:α->V)(f:α->ar)(J:Mem->Prop)(c:∀Y,J Y->g Y)(l:List α):∀(acc:ar)(Y:Mem),(∀a∈l,∀(K:ar->Mem->Prop) Y,J Y->(∀σ',J σ'->K (f a) σ')->step (e a) K Y)->J Y->(acc++l.flatMap f).length<=100000->(∀σ',J σ'->K (acc++l.flatMap f) σ')->compLoop step g (l.map e) K acc Y:=by
 induction l with
 |nil=>exact λ acc Y D j D k=>⟨c Y j,by have:=k Y j;rw[List.flatMap_nil,d1]at this;exact this⟩
 |cons a l y=>
  intro acc Y L j N k
  refine⟨c Y j,af (aa (by exact bU▸au _ _) N),L a (.head _) _ Y j λ σ' r=> ?_⟩
  rw[List.flatMap_cons,<-cj]at N k
  exact y _ σ' (λ b U=>L b (.tail _ U)) r N k
theorem oX{mt:Bool}{elt it:ME}{N:aj}{tests:List ME}{Q:eY}{vi:V}{x:Bool×ar×(Mem->Prop)}(hit:Ev J d it B Y vi)(I:jw Y vi=some x)(h:compLoop (λ v K Y=>opt (lE x.1 N v B) λ q=>wTs J pg d tests (λ b Y=>match b with
    |true=>wE J pg d elt (λ r Y=>K [r] Y) q Y
    |false=>K [] Y) q Y) x.2.2 x.2.1 (λ m Y=>short m=true/\match mt with
     |false=>Q (.list m) Y
     |true=>Q (.ref Y.n) (Y.alloc (.list m))) [] Y):wE J pg d (.comp mt elt N it tests) Q B Y:=hit _ (cX I h)
theorem HB{α:Type}(e:α->V){elt:ME}{i:Nat}{it:ME}{vi:V}{l:List α}{g:Mem->Prop}{Q:eY}(hit:Ev J d it B Y vi)(I:jw Y vi=some (false,l.map e,g))(f:α->V)(b:Mem->Prop)(x:b Y)(c:∀Y,b Y->g Y)(L:∀a∈l,∀(K:eY) Y,b Y->(∀σ',b σ'->K (f a) σ')->wE J pg d elt K (B.set i (e a)) Y)(N:l.length<=100000)(T:∀σ',b σ'->Q (.list (l.map f)) σ'):wE J pg d (.comp false elt [i] it []) Q B Y:=by
 have N:(l.map f).length<=100000:=by rw[aX];exact N
 refine oX hit I (gX e (λ a=>[f a]) b c l [] Y (λ a z K Y j k=>L a z (λ r Y=>K [r] Y) Y j k) x ?_ λ σ' q=> ?_)
 ·rw[k9,gG];exact N
 ·rw[k9,gG];exact⟨af N,T σ' q⟩
theorem qL{α:Type}(e:α->V){elt:ME}{i:Nat}{it:ME}{vi:V}{l:List α}{g:Mem->Prop}{Q:eY}(hit:Ev J d it B Y vi)(I:jw Y vi=some (false,l.map e,g))(f:α->V)(c:g Y)(L:∀a∈l,Ev J d elt (B.set i (e a)) Y (f a))(N:l.length<=100000)(T:Q (.list (l.map f)) Y):wE J pg d (.comp false elt [i] it []) Q B Y:=HB e hit I f (·=Y) rfl (λ D j=>j▸c) (λ a z K D j k=>j▸L a z K (k _ rfl)) N λ D j=>j▸T
noncomputable def Ext(Y σ':Mem):Prop:=Y.n<=σ'.n/\∀i,i<Y.n->σ'.f i=Y.f i
theorem Ext.refl(Y:Mem):Ext Y Y:=⟨ai _,λ D D=>rfl⟩
theorem Ext.trans{Y σ' p:Mem}(a:Ext Y σ')(b:Ext σ' p):Ext Y p:=⟨aa a.1 b.1,λ i h=>(b.2 i (ah h a.1)).trans (a.2 i h)⟩
theorem Ext.alloc(Y:Mem)(o:O):Ext Y (Y.alloc o):=⟨dC _,λ i h=>av (az h)⟩
theorem Ext.set{Y σ':Mem}(e:Ext Y σ'){i:Nat}(hi:Y.n<=i)(o:O):Ext Y (σ'.set i o):=⟨e.1,λ j h=>(av (az (ah h hi))).trans (e.2 j h)⟩
theorem Ext.qb{Y σ':Mem}(e:Ext Y σ')(o:O):Ext Y (σ'.alloc o):=e.trans (.alloc _ _)
theorem Mem.aO(Y:Mem)(a:Nat)(o:O):(Y.set a o).f a=o:=aw rfl
theorem Mem.dS(Y:Mem){a b:Nat}(o:O)(h:b≠a):(Y.set a o).f b=Y.f b:=av h
theorem Mem.a7(Y:Mem)(o:O):(Y.alloc o).f Y.n=o:=aw rfl
theorem Mem.bD(Y:Mem){b:Nat}(o:O)(h:b≠Y.n):(Y.alloc o).f b=Y.f b:=av h
theorem a8{a b:Nat}{o:O}(h:a≠b){v:O}(n:Y.f a=v):(Y.set b o).f a=v:=(Mem.dS _ _ h).trans n
theorem nC{o v:O}{b:Nat}(n:Y.f b=v)(h:b≠Y.n):(Y.alloc o).f b=v:=(Mem.bD Y o h).trans n
noncomputable def XC(J:Cx)(d:Nat)(e:ME)(B:ar)(Y:Mem)(v:V):Prop:=∀K:eY,(∀σ',Ext Y σ'->K v σ')->wE J pg d e K B Y
theorem QN{i:Nat}{e:ME}{v:V}(he:XC J d e B Y v)(h:∀σ',Ext Y σ'->wSs J pg d r Q (B.set i v) σ'):wSs J pg d (.assign [.var i] e::r) Q B Y:=he _ h
theorem gD.cons{e:ME}{es:List ME}{v:V}{vs:ar}(L:e.isStar=false)(he:Ev J d e B Y v)(h:gD J d es B Y vs):gD J d (e::es) B Y (v::vs):=by
 intro K k
 have h:=h (λ ws Y=>K (v::ws) Y) k
 cases e with
 |star a=>exact nf L.symm
 |_=>exact he _ h
theorem gD.one{e:ME}{v:V}(L:e.isStar=false)(he:Ev J d e B Y v):gD J d [e] B Y [v]:= .cons L he λ K k=>k
theorem lN{f v:V}{args:ar}{Q:eY}{σ':Mem}(h:dY Y f args=some (v,σ'))(k:Q v σ'):pH f args [] Q Y:=by
 refine(?_:(match dY Y f args with|some (v,σ')=>Q v σ'|none=>False))
 exact h▸k
noncomputable def VW(v:V):Bool:=match v with
 | .glob _=>false
 | .ref _=>false
 |_=>true
theorem dK{b:V}{ws:ar}{K:eY}{σ':Mem}{v:V}(U:VW b=true)(n:dY Y b ws=some (v,σ'))(k:K v σ'):gB J d b ws [] [] K Y:=by
 have key:=lN n k
 induction b using V.casesOn<;>first|exact nf U|exact key
theorem ka{f e:ME}{b w v:V}(A:Ev J d f B Y b)(U:VW b=true)(he:gD J d [e] B Y [w])(n:dY Y b [w]=some (v,Y)):Ev J d (.call f [e] [] []) B Y v:=λ K k=>A _ (he _ (dK U n k))
theorem Uc{a:Nat}{vs:ar}{v:V}(N:Y.f a= .list vs)(L:vs.length<=100000):dY Y (.bm .iS) [.ref a,v]=some (.none,Y.set a (.list (vs++[v]))):=by
 refine(?_:(match Y.f a with| .list vs=>if short vs then _ else none|_=>none)=_)
 exact N▸aw (af L)
theorem CF{o e:ME}{σ':Mem}{a:Nat}{vs:ar}{v:V}(E:Ev J d o B Y (.ref a))(N:Y.f a= .list vs)(p:σ'.f a= .list vs)(L:vs.length<=100000)(he:∀K:ar->Mem->Prop,K [v] σ'->wEs J pg d [e] K B Y)(h:wSs J pg d r Q B (σ'.set a (.list (vs++[v])))):wSs J pg d (.expr (.aY o 0 [e])::r) Q B Y:=E _ (cX (aE (jv pg · (.ref a) 0) N) (he _ (lN (Uc p L) h)))
theorem dB{o e:ME}{a:Nat}{vs:ar}{v:V}(E:Ev J d o B Y (.ref a))(N:Y.f a= .list vs)(L:vs.length<=100000)(he:gD J d [e] B Y [v])(h:wSs J pg d r Q B (Y.set a (.list (vs++[v])))):wSs J pg d (.expr (.aY o 0 [e])::r) Q B Y:=CF E N N L he h
theorem HC{e:ME}{v:V}{n:Nat}(he:Ev J d e B Y v)(M:e.isStar=false)(h:Jb Y v=some n)(N:n<=1000000):Ev J d (.call (.ck 24) [e] [] []) B Y (.int (n:Int)):=λ K k=>gD.one M he _ (lN (by
 refine(?_:(match Jb Y v with|some n=>if decide (n<=1000000)then _ else none|none=>none)=_)
 exact h▸aw (af N)) k)
theorem jL{o:ME}{m:Nat}{args:List ME}{K:eY}{v:V}{x:V×ar}(E:Ev J d o B Y v)(hm:ik pg Y v m=some x)(h:wEs J pg d args (λ vs Y=>gB J d x.1 (x.2++vs) [] [] K Y) B Y):wE J pg d (.aY o m args) K B Y:=E _ (cX hm h)
theorem HD{v:V}{Q:V->Prop}(A:v≠.aF)(q:Q v):got v Q:=by cases v<;>first|exact q|exact absurd rfl A
theorem gH{o:ME}{k i C:Nat}{as:List (Nat×V)}{w:V}(E:Ev J d o B Y (.ref i))(hi:Y.f i= .inst C as)(z:pg.insts.contains C=true)(m:as.lookup k=some w)(A:w≠.aF):Ev J d (.attr o k) B Y w:=λ K q=>E _ (by
 refine(?_:(match Y.f i with| .inst C as=>_|_=>False))
 exact hi▸⟨z,cX m (HD A q)⟩)
theorem Br{i:Nat}{vs:ar}(h:Y.f i= .list vs)(N:vs.length<=1000000):b6 Y (.ref i)=some (!vs.isEmpty):=by
 refine(?_:(match(Y.f i).fq with|some vs=>if decide (vs.length<=1000000)then some (!vs.isEmpty)else none|none=>none)=_)
 exact h▸aw (af N)
theorem HE{i:Nat}{v:V}(h:B[i]? =some v)(A:v≠.aF):Ev J d (.var i) B Y v:=λ K k=>by
 refine(?_:got (B.getD i .aF) _)
 refine(kX).symm▸h.symm▸?_
 exact HD A k
theorem Kj{e:ME}{v:V}(he:Ev J d e B Y v)(h:Q (.ret v) B Y):wSs J pg d (.ret e::r) Q B Y:=he _ h
theorem CG{t:ME}(u:Ev J d t B Y (.bool true))(h:wSs J pg d r Q B Y):wSs J pg d (.iZ t::r) Q B Y:=u _ ⟨rfl,h⟩
theorem QO{t a b:ME}{K:eY}{v:V}{q:Bool}(u:Ev J d t B Y v)(n:b6 Y v=some q)(M:q=true->wE J pg d a K B Y)(H:q=false->wE J pg d b K B Y):wE J pg d (.EZ t a b) K B Y:=u _ (cX n (by induction q;exact H rfl;exact M rfl))
theorem mh{a:Nat}(z:a<2^64):small (a:Int)=true:=af (by rw[Int.natAbs_natCast];exact z)
theorem Ey{a k:Nat}(z:a<2^64)(H:k<=1000):mn Y .LShift (.int (a:Int)) (.int (k:Int))=some (.int ((a*2^k:Nat):Int)):=by
 refine(?_:(if decide ((0:Int)<=k)&&(decide ((k:Int)<=1000)&&small a)then some ((a:Int)*2^(k:Int).toNat)else none).map V.int=_)
 refine(mh z).symm▸(af (dE k)).symm▸(af (show(k:Int)<=1000 from gq.mpr H)).symm▸?_
 refine(?_:some (V.int ((a:Int)*2^k))=_)
 rw[Int.natCast_mul,Int.natCast_pow]
 rfl
theorem NU{a k:Nat}:mn Y .RShift (.int (a:Int)) (.int (k:Int))=some (.int ((a/2^k:Nat):Int)):=by
 refine(?_:(if decide ((0:Int)<=k)then some ((a:Int).fdiv (2^(k:Int).toNat))else none).map V.int=_)
 refine(af (dE k)).symm▸?_
 refine(?_:some (V.int ((a:Int).fdiv (2^k)))=_)
 rw[Int.fdiv_eq_ediv_of_nonneg _ (Int.pow_nonneg (by decide)),Int.natCast_ediv,Int.natCast_pow]
 rfl
theorem vE{a b:Nat}:mn Y .BitAnd (.int (a:Int)) (.int (b:Int))=some (.int ((a&&&b:Nat):Int)):=by
 refine(?_:(if decide ((0:Int)<=a)&&decide ((0:Int)<=b)then some (((a:Int).toNat&&&(b:Int).toNat:Nat):Int)else none).map V.int=_)
 refine(af (dE a)).symm▸(af (dE b)).symm▸?_
 rfl
theorem Kk{a b:Nat}:mn Y .BitOr (.int (a:Int)) (.int (b:Int))=some (.int ((a|||b:Nat):Int)):=by
 refine(?_:(if decide ((0:Int)<=a)&&decide ((0:Int)<=b)then some (((a:Int).toNat|||(b:Int).toNat:Nat):Int)else none).map V.int=_)
 refine(af (dE a)).symm▸(af (dE b)).symm▸?_
 rfl
theorem LQ{a b:Nat}(h:b<=a):mn Y .Sub (.int (a:Int)) (.int (b:Int))=some (.int ((a-b:Nat):Int)):=aE (λ i=>some (V.int i)) (Int.ofNat_sub h).symm
end
theorem Ev.zD{a b:ME}{va vb:V}{q1 q2:Bool}(z:Ev J d a B Y va)(M:b6 Y va=some q1)(U:Ev J d b B Y vb)(u:b6 Y vb=some q2):Ev J d (.qT [a,b]) B Y (.bool (q1&&q2)):=λ K k=>z _ (cX M (by
  induction q1 with
  |false=>exact k
  |true=>exact U _ (cX u (by induction q2<;>exact k))))
noncomputable def fc(c:Nat):Nat:=if 65<=c/\c<=90 then c-65 else if 97<=c/\c<=122 then c-71 else if 48<=c/\c<=57 then c+4 else if c=43 then 62 else if c=47 then 63 else 64
theorem Ev.pF{a b e:ME}{U c:CmpOp}{va vb u:V}{q1 q2:Bool}(z:Ev J d a B Y va)(M:Ev J d b B Y vb)(G:mq Y U va vb=some q1)(he:Ev J d e B Y u)(H:mq Y c vb u=some q2):Ev J d (.pF a U b c e) B Y (.bool (q1&&q2)):=λ K k=>z _ (M _ (cX G (by
  induction q1 with
  |false=>exact k
  |true=>exact he _ (cX H k))))
theorem HF{s t u:ME}{a b r:List MS}{Q:Fl->ar->Mem->Prop}{c lo hi:Nat}(z:Ev J d s B Y (.int (lo:Int)))(U:Ev J d t B Y (.int (c:Int)))(he:Ev J d u B Y (.int (hi:Int)))(M:lo<=c/\c<=hi->wSs J pg d a (nx J d r Q) B Y)(H:¬(lo<=c/\c<=hi)->wSs J pg d b (nx J d r Q) B Y):wSs J pg d (.dP (.pF s .LtE t .LtE u) a b::r) Q B Y:=qa (decide ((lo:Int)<=(c:Int))&&decide ((c:Int)<=(hi:Int))) (.pF z U rfl he rfl) (λ e=>M ⟨Ki (ao e).1,Ki (ao e).2⟩) λ e=>H λ p=>by rw[af (gq.mpr p.1),af (gq.mpr p.2)]at e;exact absurd e (by decide)
theorem uy(H:Hd J)(c:Nat)(h:Q (.int (fc c:Nat)) Y):aH J (d+1) (.glob oT) [.int (c:Int)] [] [] Q Y:=by
 refine q5 H _ ?_
 have lit:∀(n:Nat),Ev J d (.lit (.int (n:Int))) [.int (c:Int)] Y (.int (n:Int)):=λ n K k=>k
 have var:Ev J d (.var 0) [.int (c:Int)] Y (.int (c:Int)):=λ K k=>k
 have fin:∀{i:Int},((fc c:Nat):Int)=i->Q (.int i) Y:=λ e=>e▸h
 refine HF (lit 65) var (lit 90) (λ p=> ?_) (λ n1=> ?_)
 ·exact fin ((aE _ (aw p:fc c=c-65)).trans (Int.ofNat_sub p.1))
 refine HF (lit 97) var (lit 122) (λ p=> ?_) (λ n2=> ?_)
 ·exact fin ((aE _ ((av n1).trans (aw p):fc c=c-71)).trans (Int.ofNat_sub (aa (by decide) p.1)))
 refine HF (lit 48) var (lit 57) (λ p=> ?_) (λ r=> ?_)
 ·exact fin (aE _ ((av n1).trans ((av n2).trans (aw p)):fc c=c+4))
 refine lL var (lit 43) (λ p=> ?_) (λ t=> ?_)
 ·exact fin (aE _ ((av n1).trans ((av n2).trans ((av r).trans (aw p))):fc c=62))
 refine lL var (lit 47) (λ p=> ?_) (λ b=> ?_)
 ·exact fin (aE _ ((av n1).trans ((av n2).trans ((av r).trans ((av t).trans (aw p)))):fc c=63))
 exact fin (aE _ ((av n1).trans ((av n2).trans ((av r).trans ((av t).trans (av b)))):fc c=64))
theorem vF(H:Hd J)(b:Bool)(h:Q (.bool b) Y):aH J (d+1) (.glob zy) [.bool b] [] [] Q Y:=by
 refine zA H _ ?_
 induction b<;>exact h
theorem Bs(H:Hd J)(b:aj)(h:Q (.bytes b) Y):aH J (d+1) (.glob vD) [.bytes b] [] [] Q Y:=xj H _ h
theorem qc(H:Hd J)(b:aj)(h:Q (.bytes b) Y):aH J (d+1) (.glob kK) [.bytes b] [] [] Q Y:=nA H _ h
theorem uz(H:Hd J)(b:aj)(h:Q (.bytes b) Y):aH J (d+1) (.glob cN) [.bytes b] [] [] Q Y:=dJ H _ h
theorem zE(H:Hd J)(b:aj)(z:ascii b=true)(L:b.length<=100000)(h:Q (.bytes b) Y):aH J (d+1) (.glob cN) [.str b] [] [] Q Y:=by
 refine dJ H _ ?_
 refine lN (Y:=Y) (f:= .bm .gd) (args:=[.str b,.str [97,115,99,105,105]]) ?_ h
 refine(?_:(if isAscii [97,115,99,105,105]&&ascii b&&short b then _ else none)=_)
 rw[z,show short b=true from af L]
 rfl
structure A2 where
 out:aj
 q:Nat
 left:Nat
 nE:Nat
noncomputable def ri(s:A2)(c:Nat):A2:=if c=61 then{s with nE:=s.nE+1}else if 64<=fc c then s else match s.q with
 |0=>⟨s.out,1,fc c,0⟩
 |1=>⟨s.out++[s.left*2^2|||fc c/2^4],2,fc c&&&15,0⟩
 |2=>⟨s.out++[s.left*2^4|||fc c/2^2],3,fc c&&&3,0⟩
 |_=>⟨s.out++[s.left*2^6|||fc c],0,0,0⟩
noncomputable abbrev nums(l:aj):ar:=l.map λ(k:Nat)=>V.int (k:Int)
noncomputable def R6(Y:Mem)(l:aj)(s:A2)(i:Nat)(v:V):ar:=[.bytes l,.bool false,.bytes l,.ref Y.n,.int (s.q:Int),.int (s.left:Int),.int (s.nE:Int),.int (i:Int),v]
inductive VX(Y:Mem)(l:aj)(fin:A2)(bs:aj)(B:ar)(σ':Mem):Prop where
 |mk (s:A2) (i:Nat) (v:V) (hf:bs.foldl ri s=fin) (hl:s.left<64) (ho:s.out.length+bs.length<=100000) (hr:B=R6 Y l s i v) (ex:Ext Y σ') (out:σ'.f Y.n= .list (nums s.out)) (hn:Y.n<σ'.n):VX Y l fin bs B σ'
theorem QP(a:Nat):a&&&15<64:=b9 Nat.and_le_right (by decide)
theorem Ud(a:Nat):a&&&3<64:=b9 Nat.and_le_right (by decide)
theorem jM(l:aj)(k:Nat):nums l++[V.int (k:Int)]=nums (l++[k]):=(fj (f:=λ k:Nat=>V.int (k:Int)) (l₁:=l) (l₂:=[k])).symm
theorem bH(l:aj):(nums l).length=l.length:=aX _
theorem qM(l:aj):intsOf (nums l)=some (l.map λ k:Nat=>(k:Int)):=by
 induction l with
 |nil=>rfl
 |cons k l y=>exact aE (Option.map ((k:Int)::·)) y
theorem HG{v:V}{l:aj}(N:bS Y v=some (nums l))(L:l.length<=100000)(U:∀k∈l,k<256):dY Y (.ty .bytes) [v]=some (.bytes l,Y):=by
 refine(?_:(match bS Y v with|some vs=>(match intsOf vs with|some is=>if short is&&is.all (λ i=>decide (0<=i)&&decide (i<256))then some (V.bytes (is.map Int.toNat),Y)else none|none=>none)|none=>none)=_)
 rw[N]
 refine(?_:(match intsOf (nums l)with|some is=>if short is&&is.all (λ i=>decide (0<=i)&&decide (i<256))then some (V.bytes (is.map Int.toNat),Y)else none|none=>none)=_)
 rw[qM]
 refine(aw (kS (af (by rw[aX];exact L)) (fg.mpr λ i hi=> ?_))).trans (aE (λ l=>some (V.bytes l,Y)) ?_)
 ·obtain⟨k,H,rfl⟩:=cQ.mp hi
  exact kS (af (dE k)) (af (mF.mpr (U k H)))
 ·rw[fN]
  exact List.map_id _
theorem HH{a:Nat}{l:aj}(N:Y.f a= .list (nums l))(L:l.length<=100000)(U:∀k∈l,k<256):dY Y (.ty .bytes) [.ref a]=some (.bytes l,Y):=HG (aE O.fq N) L U
theorem QQ{s:A2}{b:Nat}(U:b≠61)(a:¬64<=fc b)(i:s.q≠0)(M:s.q≠1)(u:s.q≠2):ri s b=⟨s.out++[s.left*2^6|||fc b],0,0,0⟩:=by
 obtain⟨o,q,N,p⟩:=s
 refine(av U).trans ((av a).trans ?_)
 match q,i,M,u with
 |0,h,_,_=>exact absurd rfl h
 |1,_,h,_=>exact absurd rfl h
 |2,_,_,h=>exact absurd rfl h
 |_+3,_,_,_=>rfl
theorem uA(H:Hd J)(l:aj)(g:l.length<=50000)(u:(l.foldl ri ⟨[],0,0,0⟩).q≠1)(hp:(l.foldl ri ⟨[],0,0,0⟩).q=0\/4<=(l.foldl ri ⟨[],0,0,0⟩).q+(l.foldl ri ⟨[],0,0,0⟩).nE)(E:∀k∈(l.foldl ri ⟨[],0,0,0⟩).out,k<256)(h:∀σ',Ext Y σ'->Q (.bytes (l.foldl ri ⟨[],0,0,0⟩).out) σ'):aH J (d+2) (.glob oU) [.bytes l] ["strict_mode"] [.bool false] Q Y:=by
 obtain⟨fin,y⟩:∃fin,l.foldl ri ⟨[],0,0,0⟩=fin:=⟨_,rfl⟩
 rw[y]at u hp E h
 refine q7 H _ _ ?_
 refine cH (v:= .bytes l) (λ K k=>qc H l k) ?_
 refine cH (v:= .bool false) (λ K k=>vF H false k) ?_
 refine rh (v:= .ref Y.n) (σ':=Y.alloc (.list [])) aB ?_
 refine cH (v:= .int 0) aB (cH (v:= .int 0) aB (cH (v:= .int 0) aB (cH (v:= .int 0) aB ?_)))
 refine lM (λ k:Nat=>V.int (k:Int)) (vi:= .bytes l) aB rfl (VX Y l fin) ⟨⟨[],0,0,0⟩,0,.aF,y,by decide,by rw[List.length_nil,gM];exact aa g (by decide),rfl,.alloc _ _,Mem.a7 _ _,bF _⟩ (λ D D D D=>trivial) ?_ ?_
 ·rintro b bs B z K ⟨s,i,T,A,C,hlen,rfl,ex,L,w⟩ k
  have hlen:s.out.length+1+bs.length<=100000:=aa (bN (iQ _ 1 _)) hlen
  have A:bs.foldl ri (ri s b)=fin:=A
  have m:(nums s.out).length<=100000:=by rw[bH];exact aa (aa (dC _) (au _ _)) hlen
  have f:s.out.length+bs.length<=100000:=aa (eh (dC _) _) hlen
  have big:∀{x:Nat},x<64->x<2^64:=λ h=>ah h (by decide)
  refine(?_:wSs J pg (d+1) _ K (R6 Y l s i (.int (b:Int))) z)
  refine lL (n:=61) aB aB (λ U=> ?_) (λ U=> ?_)
  ·refine cH (v:= .int ((s.nE+1:Nat):Int)) aB ?_
   have done:=(k _ _ ⟨{s with nE:=s.nE+1},i+1,.int (b:Int),by rw[<-A];exact aE (List.foldl ri · bs) (aw U).symm,C,f,rfl,ex,L,w⟩).2
   refine qa (decide ((2:Int)<=(s.q:Int))&&decide ((s.q:Int)+((s.nE+1:Nat):Int)<=4)) (Ev.zD (Ev.cmp aB aB rfl) rfl (Ev.cmp (Ev.bin aB aB rfl) aB rfl) rfl) (λ e=>done) (λ e=> ?_)
   exact qa (!false) (Ev.uf (va:= .bool false) (q:=false) aB rfl) (λ e=>done) nofun
  ·refine cH (v:= .int (fc b:Nat)) (λ K k=>uy H b k) ?_
   refine qa (decide (((64:Nat):Int)<=((fc b:Nat):Int))) (Ev.cmp aB aB rfl) (λ e=> ?_) (λ e=> ?_)
   ·refine qa false aB nofun (λ e'=> ?_)
    exact(k _ _ ⟨s,i+1,.int (fc b:Nat),by rw[<-A];exact aE (List.foldl ri · bs) ((av U).trans (aw (Ki e))).symm,C,f,rfl,ex,L,w⟩).2
   ·have o:=iR.mpr (NT e)
    refine qa (((s.nE:Int)!=0)&&false) (Ev.zD (va:= .int (s.nE:Int)) aB rfl (vb:= .bool false) aB rfl) (λ e=>nf ((ao e).2)) (λ D=> ?_)
    refine cH (v:= .int 0) aB ?_
    have done:∀(s':A2),ri s b=s'->s'.left<64->∀p,s'.out.length<=s.out.length+1->Ext Y p->p.f Y.n= .list (nums s'.out)->Y.n<p.n->K .next (R6 Y l s' (i+1) (.int (fc b:Nat))) p:=λ s' c M p j t r e6=>(k _ _ ⟨s',i+1,_,by rw[<-c];exact A,M,aa (eh j _) hlen,rfl,t,r,e6⟩).1
    have G:∀{x q N:Nat},ri s b=⟨s.out++[x],q,N,0⟩->N<64->K .next (R6 Y l ⟨s.out++[x],q,N,0⟩ (i+1) (.int (fc b:Nat))) (z.set Y.n (.list (nums s.out++[.int (x:Int)]))):=λ c M=>done _ c M _ (by exact bU▸ai _) (ex.set (ai _) _) ((Mem.aO _ _ _).trans (aE O.list (jM _ _))) w
    refine lL (x:=s.q) (n:=0) aB aB (λ I=> ?_) (λ I=> ?_)
    ·exact done ⟨s.out,1,fc b,0⟩ ((av U).trans ((av o).trans (by rw[I];rfl))) (NT e) z (dC _) ex L w
    refine lL (x:=s.q) (n:=1) aB aB (λ q1=> ?_) (λ q1=> ?_)
    ·refine cH (v:= .int 2) aB ?_
     refine dB (a:=Y.n) aB L m (v:= .int ((s.left*2^2|||fc b/2^4:Nat):Int)) (gD.one rfl (Ev.bin (Ev.bin (vb:= .int ((2:Nat):Int)) aB aB (Ey (big C) (by decide))) (Ev.bin (vb:= .int ((4:Nat):Int)) aB aB NU) Kk)) ?_
     refine cH (v:= .int ((fc b&&&15:Nat):Int)) (Ev.bin (vb:= .int ((15:Nat):Int)) aB aB vE) ?_
     exact G (q:=2) ((av U).trans ((av o).trans (by rw[q1];rfl))) (QP _)
    refine lL (x:=s.q) (n:=2) aB aB (λ q2=> ?_) (λ q2=> ?_)
    ·refine cH (v:= .int 3) aB ?_
     refine dB (a:=Y.n) aB L m (v:= .int ((s.left*2^4|||fc b/2^2:Nat):Int)) (gD.one rfl (Ev.bin (Ev.bin (vb:= .int ((4:Nat):Int)) aB aB (Ey (big C) (by decide))) (Ev.bin (vb:= .int ((2:Nat):Int)) aB aB NU) Kk)) ?_
     refine cH (v:= .int ((fc b&&&3:Nat):Int)) (Ev.bin (vb:= .int ((3:Nat):Int)) aB aB vE) ?_
     exact G (q:=3) ((av U).trans ((av o).trans (by rw[q2];rfl))) (Ud _)
    ·refine cH (v:= .int 0) aB ?_
     refine dB (a:=Y.n) aB L m (v:= .int ((s.left*2^6|||fc b:Nat):Int)) (gD.one rfl (Ev.bin (Ev.bin (vb:= .int ((6:Nat):Int)) aB aB (Ey (big C) (by decide))) aB Kk)) ?_
     exact G (q:=0) (QQ U o I q1 q2) (by decide)
 ·rintro B z ⟨s,i,T,rfl,C,hlen,rfl,ex,L,w⟩
  refine lL (x:=s.q) (n:=1) aB aB (λ e=>absurd e u) (λ e=> ?_)
  refine qa ((!((s.q:Int)==0))&&decide ((s.q:Int)+(s.nE:Int)<4)) (Ev.zD (Ev.cmp aB aB rfl) rfl (Ev.cmp (Ev.bin aB aB rfl) aB rfl) rfl) (λ e=> ?_) (λ e=> ?_)
  ·exact absurd hp (not_or.mpr ⟨NS (i9 (ao e).1),iR.mpr (mF.mp (ae (ao e).2))⟩)
  ·exact lN (HH L hlen E) (h _ ex)
noncomputable abbrev gY:aj:=[65,66,67,68,69,70,71,72,73,74,75,76,77,78,79,80,81,82,83,84,85,86,87,88,89,90,97,98,99,100,101,102,103,104,105,106,107,108,109,110,111,112,113,114,115,116,117,118,119,120,121,122,48,49,50,51,52,53,54,55,56,57,43,47]
noncomputable def bK(i:Nat):Nat:=gY.getD i 0
theorem tD{k:Nat}(H:k<64):gA Y (.bytes gY) (.int (k:Int))=some (.int (bK k:Nat)):=by
 refine(aw (e:=none) (kS rfl (af (dE k)))).trans ?_
 refine(?_:(gY[k]?).map (λ(k:Nat)=>V.int (k:Int))=_)
 rw[jr H,bK,kX,jr H]
 rfl
structure B2 where
 out:aj
 bits:Nat
 left:Nat
noncomputable def vG(s:B2):B2:=⟨s.out++[bK (s.left/2^(s.bits-6)&&&63)],s.bits-6,s.left⟩
noncomputable def nF:Nat->B2->B2
 |0,s=>s
 |k+1,s=>if 6<=s.bits then nF k (vG s)else s
noncomputable def x7(s:B2)(b:Nat):B2:=nF 2 ⟨s.out,s.bits+8,(s.left*2^8|||b)&&&65535⟩
noncomputable def Bt(s:B2):aj:=if s.bits=2 then s.out++[bK ((s.left&&&3)*2^4),61,61]else if s.bits=4 then s.out++[bK ((s.left&&&15)*2^2),61]else s.out
noncomputable def xx(l:aj):aj:=Bt (l.foldl x7 ⟨[],0,0⟩)
theorem qN(k:Nat)(s:B2)(h:s.bits<6):nF k s=s:=by
 induction k with
 |zero=>rfl
 |succ k=>exact av (iR.mpr h)
theorem cY{α:Type}(l:List α)(a:α):(l++[a]).length=l.length+1:=bU
theorem xy(k:Nat):bK k<128:=by
 by_cases h:k<64
 ·exact(by decide+kernel:∀k:Fin 64,bK k<128) ⟨k,h⟩
 ·rw[bK,kX,List.getElem?_eq_none (Nat.le_of_not_lt h)]
  decide
theorem kc{α:Type}{F:List α}{f:α}:f∈F++[f]:=jq _ (.head _)
theorem dp{α:Type}{F:List α}{f x:α}{P:Prop}(h:x∈F++[f])(M:x∈F->P)(u:x=f->P):P:=(dZ.mp h).elim M λ h=>u (cR.mp h)
theorem qd{l:aj}{a:Nat}(h:l.Nodup)(z:∀x∈l,x≠a):(l++[a]).Nodup:=List.nodup_append.mpr ⟨h,List.pairwise_singleton _ _,λ x I y j=>cR.mp j▸z x I⟩
theorem CH{α:Type}{l:List α}{a:α}{P:α->Prop}(h:∀x∈l,P x)(z:P a):∀x∈l++[a],P x:=λ x I=>dp I (h x) λ e=>e▸z
structure Ue(k n:Nat)(s:B2):Prop where
 b:s.bits<6
 c:∀c∈s.out,c<128
 l:s.out.length<=n+k
theorem Ez(k:Nat):∀(s:B2),s.bits<6*(k+1)->(∀c∈s.out,c<128)->Ue k s.out.length (nF k s):=by
 induction k with
 |zero=>exact λ s h C=>⟨h,C,ai _⟩
 |succ k y=>
  intro s h C
  by_cases T:6<=s.bits
  ·have:=y (vG s) (Nat.sub_lt_left_of_lt_add T (by rw[ff];exact h)) (CH C (xy _))
   exact(show nF (k+1) s=nF k (vG s) from aw T)▸⟨this.b,this.c,aa this.l (bN (by rw[vG,cY,gp,ff 1 k]))⟩
  ·refine(qN _ s (Nat.lt_of_not_le T)).symm▸?_
   exact⟨Nat.lt_of_not_le T,C,au _ _⟩
theorem NV(s:B2)(b:Nat)(h:s.bits<6)(C:∀c∈s.out,c<128):Ue 2 s.out.length (x7 s b):=Ez 2 ⟨s.out,s.bits+8,(s.left*2^8|||b)&&&65535⟩ (ah (Nat.add_lt_add_right h 8) (by decide)) C
theorem NW(s:B2)(h:∀c∈s.out,c<128):∀c∈Bt s,c<128:=by
 delta Bt
 by_cases u:s.bits=2
 ·exact aw u▸List.forall_mem_append.mpr ⟨h,dy.mpr ⟨xy _,by decide⟩⟩
 ·refine(av u).symm▸?_
  by_cases g:s.bits=4
  ·exact aw g▸List.forall_mem_append.mpr ⟨h,dy.mpr ⟨xy _,by decide⟩⟩
  ·exact av g▸h
theorem zF(l:aj):∀{s:B2},s.bits<6->(∀c∈s.out,c<128)->Ue (2*l.length) s.out.length (l.foldl x7 s):=by
 induction l with
 |nil=>exact λ M u=>⟨M,u,ai _⟩
 |cons b l y=>
  intro s M u
  have e:=NV s b M u
  have i:=y e.b e.c
  exact⟨i.b,i.c,aa i.l (aa (eh e.l _) (bN (by rw[gp,ff 2];rfl)))⟩
theorem xA(l:aj):∀c∈xx l,c<128:=NW _ (zF l (s:=⟨[],0,0⟩) (by decide) nofun).c
theorem CI(s:B2):(Bt s).length<=s.out.length+3:=by
 delta Bt
 by_cases u:s.bits=2
 ·rw[aw u,bU];exact ai _
 ·refine(av u).symm▸?_
  by_cases g:s.bits=4
  ·refine(aw g).symm▸bU.symm▸?_;exact dC _
  ·exact av g▸au _ _
theorem zG(l:aj):(xx l).length<=2*l.length+3:=aa (CI _) (eh (aa (zF l (s:=⟨[],0,0⟩) (by decide) nofun).l (bN (gM _))) 3)
noncomputable def R7(Y:Mem)(l:aj)(s:B2)(v:V):ar:=[.bytes l,.bool false,.bytes l,.ref Y.n,.int (s.bits:Int),.int (s.left:Int),v]
inductive VY(Y:Mem)(l:aj)(fin:B2)(bs:aj)(B:ar)(σ':Mem):Prop where
 |mk (s:B2) (v:V) (hf:bs.foldl x7 s=fin) (hb:s.bits<6) (hl:s.left<=65535) (ho:s.out.length+2*bs.length<=90000) (O8:∀b∈bs,b<256) (hr:B=R7 Y l s v) (ex:Ext Y σ') (out:σ'.f Y.n= .list (nums s.out)) (hn:Y.n<σ'.n):VY Y l fin bs B σ'
inductive VZ(Y:Mem)(l:aj)(s:B2)(b:Nat)(n:Nat)(B:ar)(σ':Mem):Prop where
 |mk (j:Nat) (s':B2) (hn:n=s'.bits) (he:nF j s'=x7 s b) (hb:s'.bits<6*(j+1)) (hl:s'.left<=65535) (ho:s'.out.length+j<=s.out.length+2) (hr:B=R7 Y l s' (.int (b:Int))) (ex:Ext Y σ') (out:σ'.f Y.n= .list (nums s'.out)) (hs:Y.n<σ'.n):VZ Y l s b n B σ'
theorem uB(H:Hd J)(l:aj)(hl:l.length<=40000)(hb:∀b∈l,b<256)(h:∀σ',Ext Y σ'->Q (.bytes (xx l)) σ'):aH J (d+2) (.glob oV) [.bytes l] ["newline"] [.bool false] Q Y:=by
 obtain⟨fin,N⟩:∃fin,l.foldl x7 ⟨[],0,0⟩=fin:=⟨_,rfl⟩
 have Ug:xx l=Bt fin:=by skip;exact N.symm▸rfl
 have I:=xA l
 rw[Ug]at h I
 refine q8 H _ _ ?_
 refine cH (v:= .bytes l) (λ K k=>Bs H l k) ?_
 refine cH (v:= .bool false) (λ K k=>vF H false k) ?_
 refine rh (v:= .ref Y.n) (σ':=Y.alloc (.list [])) aB ?_
 refine cH (v:= .int 0) aB (cH (v:= .int 0) aB ?_)
 refine lM (λ k:Nat=>V.int (k:Int)) (vi:= .bytes l) aB rfl (VY Y l fin) ⟨⟨[],0,0⟩,.aF,N,by decide,by decide,by rw[List.length_nil,gM];exact aa (nS 2 hl) (by decide),hb,rfl,.alloc _ _,Mem.a7 _ _,bF _⟩ (λ D D D D=>trivial) ?_ ?_
 ·rintro b bs B aJ K ⟨s,o,hf,m,y,hlen,T,rfl,ex,C,w⟩ k
  have hlen:s.out.length+2+2*bs.length<=90000:=aa (bN (by rw[gp,ff 2];rfl)) hlen
  refine cH (v:= .int ((s.left*2^8|||b)&&&65535:Nat)) (Ev.bin (vb:= .int ((65535:Nat):Int)) (Ev.bin (Ev.bin (vb:= .int ((8:Nat):Int)) aB aB (Ey (b9 y (by decide)) (by decide))) aB Kk) aB vE) ?_
  refine cH (v:= .int ((s.bits+8:Nat):Int)) aB ?_
  refine xw (VZ Y l s b) (s.bits+8) ⟨2,⟨s.out,s.bits+8,(s.left*2^8|||b)&&&65535⟩,rfl,rfl,ah (Nat.add_lt_add_right m 8) (by decide),Nat.and_le_right,ai _,rfl,ex,C,w⟩ ?_
  rintro n B p ⟨j,s',rfl,he,f,t,M,rfl,E,A,e⟩
  refine⟨.bool (decide (((6:Nat):Int)<=(s'.bits:Int))),_,Ev.cmp aB aB rfl,rfl,λ q K k1 k2=> ?_,λ q=> ?_⟩
  ·have L:6<=s'.bits:=Ki q
   induction j with
   |zero=>exact absurd f (aC L)
   |succ j=>
    have K0:Ev J (d+1) (.bin .Sub (.var 4) (.lit (.int 6))) (R7 Y l s' (.int (b:Int))) p (.int ((s'.bits-6:Nat):Int)):=Ev.bin (va:= .int (s'.bits:Int)) (vb:= .int ((6:Nat):Int)) aB aB (LQ L)
    refine dB (a:=Y.n) aB A (by rw[bH];exact aa (au _ _) (aa M (aa (au _ _) (aa hlen (by decide))))) (gD.one rfl (Ev.sub (va:= .bytes gY) aB (Ev.bin (vb:= .int ((63:Nat):Int)) (Ev.bin aB K0 NU) aB vE) (tD (b9 Nat.and_le_right (by decide))))) ?_
    refine cH (v:= .int ((s'.bits-6:Nat):Int)) (Ev.bin (va:= .int (s'.bits:Int)) (vb:= .int ((6:Nat):Int)) aB aB (LQ L)) ?_
    exact(k1 (s'.bits-6) _ _ (Nat.sub_lt (ah (by decide) L) (by decide)) ⟨j,vG s',rfl,(aw L).symm.trans he,Nat.sub_lt_left_of_lt_add L (by rw[ff];exact f),t,aa (bN (by rw[vG,cY,gp,ff 1 j])) M,rfl,E.set (ai _) _,(Mem.aO _ _ _).trans (aE O.list (jM _ _)),e⟩).1
  ·have L:s'.bits<6:=NT q
   rw[qN j s' L]at he
   exact(k _ _ ⟨s',.int (b:Int),by refine he.symm▸?_;exact hf,L,t,aa (eh (aa (au _ _) M) _) hlen,λ c hc=>T c (.tail _ hc),rfl,E,A,e⟩).1
 ·rintro B aJ ⟨s,o,rfl,m,y,hlen,T,rfl,ex,C,w⟩
  have U:s.out.length<=90000:=hlen
  have G:(nums s.out).length<=90000:=by rw[bH];exact U
  have i:∀{n:Nat}{vs:ar}(v:V),vs.length<=n->(vs++[v]).length<=n+1:=λ v h=>by rw[cY];exact gI h
  have last:∀p,Ext Y p->p.f Y.n= .list (nums (Bt s))->wSs J pg (d+1) [.dP (.var 1) [.expr (.aY (.var 3) 0 [.lit (.int 10)])] [],.ret (.call (.ck 5) [.var 3] [] [])] (dg Q) (R7 Y l s o) p:=λ p o5 ho=>qa false aB nofun (λ D=>lN (HH ho (aa (CI s) (aa (eh U 3) (by decide))) λ k z=>gQ (I k z) (by decide)) (h _ o5))
  refine lL (x:=s.bits) (n:=2) aB aB (λ u=> ?_) (λ u=> ?_)
  ·have r:s.left&&&3<=3:=Nat.and_le_right
   have z:(s.left&&&3)*2^4<64:=b9 (Nat.mul_le_mul_right _ r) (by decide)
   refine dB (a:=Y.n) aB C (aa G (by decide)) (gD.one rfl (Ev.sub (va:= .bytes gY) aB (Ev.bin (vb:= .int ((4:Nat):Int)) (Ev.bin (vb:= .int ((3:Nat):Int)) aB aB vE) aB (Ey (b9 r (by decide)) (by decide))) (tD z))) ?_
   refine dB (a:=Y.n) (v:= .int 61) aB (Mem.aO _ _ _) (aa (i _ G) (by decide)) aB ?_
   refine dB (a:=Y.n) (v:= .int 61) aB (Mem.aO _ _ _) (aa (i _ (i _ G)) (by decide)) aB ?_
   refine last _ (((ex.set (ai _) _).set (ai _) _).set (ai _) _) ((Mem.aO _ _ _).trans (aE O.list ?_))
   rw[show Bt s=s.out++[bK ((s.left&&&3)*2^4),61,61] from aw u,nums,nums,fj,cj,cj]
   rfl
  refine lL (x:=s.bits) (n:=4) aB aB (λ g=> ?_) (λ g=> ?_)
  ·have r:s.left&&&15<=15:=Nat.and_le_right
   have z:(s.left&&&15)*2^2<64:=b9 (Nat.mul_le_mul_right _ r) (by decide)
   refine dB (a:=Y.n) aB C (aa G (by decide)) (gD.one rfl (Ev.sub (va:= .bytes gY) aB (Ev.bin (vb:= .int ((2:Nat):Int)) (Ev.bin (vb:= .int ((15:Nat):Int)) aB aB vE) aB (Ey (b9 r (by decide)) (by decide))) (tD z))) ?_
   refine dB (a:=Y.n) (v:= .int 61) aB (Mem.aO _ _ _) (aa (i _ G) (by decide)) aB ?_
   refine last _ ((ex.set (ai _) _).set (ai _) _) ((Mem.aO _ _ _).trans (aE O.list ?_))
   rw[show Bt s=s.out++[bK ((s.left&&&15)*2^2),61] from(av u).trans (aw g),nums,nums,fj,cj]
   rfl
  ·exact last _ ex (C.trans (aE (λ l=>O.list (nums l)) ((av u).trans (av g):Bt s=s.out).symm))
noncomputable def sw(m1 m2:Nat)(c:Nat):Nat:=if c=43 then m1 else if c=47 then m2 else c
noncomputable def ws(m1 m2:Nat)(c:Nat):Nat:=if c=m2 then 47 else if c=m1 then 43 else c
noncomputable def enc(m1 m2:Nat)(l:aj):aj:=(xx l).map (sw m1 m2)
theorem tE(a b:aj)(k:Nat)(H:k<256):(fu a b).getD k 0=((a.zip b).reverse.lookup k).getD k:=by
 unfold fu
 rw[kX,gN,List.getElem?_range H]
 rfl
theorem CK{x y v w k:Nat}:([(x,v),(y,w)].lookup k).getD k=if k=x then v else if k=y then w else k:=by
 rw[eF]
 by_cases s:k=x
 ·rw[aw s,dD.mpr s];rfl
 ·rw[av s,fS s,eF]
  by_cases l:k=y
  ·rw[aw l,dD.mpr l];rfl
  ·rw[av l,fS l];rfl
theorem EA{m1 m2:Nat}{l:aj}(h:∀c∈l,c<128):lC (fu [43,47] [m1,m2]) l=l.map (sw m1 m2):=ql λ c C=>by
  rw[tE _ _ _ (gQ (h c C) (by decide))]
  refine CK.trans ?_
  unfold sw
  by_cases k:c=43
  ·rw[aw k,av (by rw[k];decide),aw k]
  ·rw[av k,av k]
theorem EB{m1 m2:Nat}{l:aj}(h:∀c∈l,c<256):lC (fu [m1,m2] [43,47]) l=l.map (ws m1 m2):=ql λ c C=>(tE _ _ _ (h c C)).trans CK
theorem Bu(a b:aj):(fu a b).length=256:=(aX _).trans bR
theorem Bv{a1 a2 b1 b2:Nat}:dY Y (.bm .c0) [.bytes [a1,a2],.bytes [b1,b2]]=some (.bytes (fu [a1,a2] [b1,b2]),Y):=rfl
theorem Bw{l a b:aj}(N:l.length<=100000):dY Y (.bm .d2) [.bytes l,.bytes (fu a b)]=some (.bytes (lC (fu a b) l),Y):=aw (kS (af (Bu a b)) (af N))
theorem Ev.trans{x v mb:ME}{l:aj}{a1 a2 b1 b2:Nat}(I:Ev J d x B Y (.bytes l))(z:gD J d [v,mb] B Y [.bytes [a1,a2],.bytes [b1,b2]])(N:l.length<=100000):Ev J d (.aY x 9 [.aY (.ck 5) 11 [v,mb]]) B Y (.bytes (lC (fu [a1,a2] [b1,b2]) l)):=λ K k=>I _ (z _ (dK rfl Bv (dK (J:=J) (d:=d) rfl (Bw N) k)))
theorem xB(H:Hd J)(l:aj)(m1 m2:Nat)(N:l.length<=40000)(U:∀b∈l,b<256)(h:∀σ',Ext Y σ'->Q (.bytes (enc m1 m2 l)) σ'):aH J (d+3) (.glob lH) [.bytes l,.bytes [m1,m2]] [] [] Q Y:=by
 refine tu H _ _ ?_
 refine QN (v:= .bytes (xx l)) (λ K k=>uB H l N U k) λ σ' ex=> ?_
 refine qa true (Ev.cmp aB aB rfl) (λ D=> ?_) (λ e=>nomatch e)
 refine CG (Ev.cmp (va:= .int 2) (vb:= .int 2) aB aB rfl) ?_
 refine Kj (Ev.trans (l:=xx l) (a1:=43) (a2:=47) (b1:=m1) (b2:=m2) aB aB (aa (zG l) (aa (eh (nS 2 N) 3) (by decide)))) ?_
 rw[EA (xA l)]
 exact h σ' ex
noncomputable def dec(m1 m2:Nat)(s:aj):A2:=(s.map (ws m1 m2)).foldl ri ⟨[],0,0,0⟩
theorem xC(H:Hd J)(s l:aj)(m1 m2:Nat)(L:s.length<=50000)(z:∀c∈s,c<128)(x:(dec m1 m2 s).q≠1)(hp:(dec m1 m2 s).q=0\/4<=(dec m1 m2 s).q+(dec m1 m2 s).nE)(E:(dec m1 m2 s).out=l)(U:∀b∈l,b<256)(h:∀σ',Ext Y σ'->Q (.bytes l) σ'):aH J (d+3) (.glob i5) [.str s,.bytes [m1,m2]] [] [] Q Y:=by
 have M:ascii s=true:=by unfold ascii;rw[fg];exact λ c C=>af (z c C)
 refine tw H _ _ ?_
 refine cH (v:= .bytes s) (λ K k=>zE H s M (aa L (by decide)) k) ?_
 refine qa true (Ev.cmp aB aB rfl) (λ D=> ?_) (λ e=>nomatch e)
 refine cH (v:= .bytes [m1,m2]) (λ K k=>uz H [m1,m2] k) ?_
 refine CG (Ev.cmp (va:= .int 2) (vb:= .int 2) aB aB rfl) ?_
 refine cH (Ev.trans (l:=s) (a1:=m1) (a2:=m2) (b1:=43) (b2:=47) aB aB (aa L (by decide))) ?_
 rw[EB (λ c C=>gQ (z c C) (by decide))]
 exact uA H _ (by rw[aX];exact L) x hp (by subst E;exact U) λ σ' ex=>by subst E;exact h σ' ex
theorem xD{a b:Nat}(k:Nat)(h:b<2^k):a*2^k|||b=a*2^k+b:=by
 rw[Nat.mul_comm,Nat.two_pow_add_eq_or_of_lt h]
theorem CL(x:Nat):x&&&63=x%64:=Nat.and_two_pow_sub_one_eq_mod x 6
theorem HL(x:Nat):x&&&15=x%16:=Nat.and_two_pow_sub_one_eq_mod x 4
theorem LV(x:Nat):x&&&3=x%4:=Nat.and_two_pow_sub_one_eq_mod x 2
theorem QS(x:Nat):x&&&65535=x%65536:=Nat.and_two_pow_sub_one_eq_mod x 16
theorem LW{k:Nat}(h:k<64):fc (bK k)=k/\bK k≠61/\bK k∈gY:=by
 have:∀k:Fin 64,fc (bK k)=k/\bK k≠61/\bK k∈gY:=by decide+kernel
 exact this ⟨k,h⟩
theorem EC{a r:Nat}(m:Nat)(h:r<m):(a*m+r)/m=a:=by rw[ff,Nat.add_mul_div_right _ _ (Nat.zero_lt_of_lt h),Nat.div_eq_of_lt h,gM]
theorem ED{a r:Nat}(m:Nat)(h:r<m):(a*m+r)%m=r:=by rw[ff,Nat.add_mul_mod_self_right,Nat.mod_eq_of_lt h]
theorem LX{a b n m:Nat}(z:a<n)(U:b<m):a*m+b<n*m:=ah (kY U _) (Nat.succ_mul a m▸Nat.mul_le_mul_right m z)
theorem iI{a n m:Nat}(h:a<m*n):a/m<n:=Nat.div_lt_of_lt_mul h
noncomputable def E0(L b:Nat):Nat:=(L*256+b)%65536
theorem low(L b:Nat){k j n:Nat}(H:k*j=256)(w:k*n=65536):E0 L b%k=b%k:=by
 unfold E0
 rw[Nat.mod_mod_of_dvd _ ⟨n,w.symm⟩,<-H,Nat.mul_left_comm,Nat.mul_add_mod]
theorem dig{L b:Nat}(k j n q:Nat)(H:k*j=256)(w:k*64=256*n)(s:k*64*q=65536)(i:0<k)(U:b<256):E0 L b/k%64=L%n*j+b/k:=by
 unfold E0
 rw[<-Nat.mod_mul_right_div_self,Nat.mod_mod_of_dvd _ ⟨q,s.symm⟩,w,Nat.mod_mul,ED 256 U,EC 256 U,<-H,Nat.mul_assoc,Nat.add_mul_div_left _ _ i,ff,Nat.mul_comm j]
theorem NX{L b:Nat}(U:b<256):(L*2^8|||b)&&&65535=E0 L b:=by rw[xD 8 U,QS];rfl
theorem NY{out:aj}{L b:Nat}(U:b<256):x7 ⟨out,0,L⟩ b=⟨out++[bK (b/4)],2,E0 L b⟩:=by
 refine(?_:B2.mk (out++[bK (((L*2^8|||b)&&&65535)/2^2&&&63)]) 2 ((L*2^8|||b)&&&65535)=_)
 rw[NX U,CL,dig 4 64 1 256 rfl rfl rfl (by decide) U,Nat.mod_one,Nat.zero_mul,gM]
theorem QT{out:aj}{L b:Nat}(U:b<256):x7 ⟨out,2,L⟩ b=⟨out++[bK (L%4*16+b/16)],4,E0 L b⟩:=by
 refine(?_:B2.mk (out++[bK (((L*2^8|||b)&&&65535)/2^4&&&63)]) 4 ((L*2^8|||b)&&&65535)=_)
 rw[NX U,CL,dig 16 16 4 64 rfl rfl rfl (by decide) U]
theorem Ui{out:aj}{L b:Nat}(U:b<256):x7 ⟨out,4,L⟩ b=⟨out++[bK (L%16*4+b/64)]++[bK (b%64)],0,E0 L b⟩:=by
 refine(?_:B2.mk (out++[bK (((L*2^8|||b)&&&65535)/2^6&&&63)]++[bK (((L*2^8|||b)&&&65535)/2^0&&&63)]) 0 ((L*2^8|||b)&&&65535)=_)
 rw[NX U,CL,CL,dig 64 4 16 16 rfl rfl rfl (by decide) U,Nat.pow_zero,Nat.div_one,low L b (k:=64) (j:=4) (n:=1024) rfl rfl]
theorem Km{s:A2}{v:Nat}(h:v<64):ri s (bK v)=match s.q with
 |0=>⟨s.out,1,v,0⟩
 |1=>⟨s.out++[s.left*2^2|||v/2^4],2,v&&&15,0⟩
 |2=>⟨s.out++[s.left*2^4|||v/2^2],3,v&&&3,0⟩
 |_=>⟨s.out++[s.left*2^6|||v],0,0,0⟩:=by
 obtain⟨M,u,D⟩:=LW h
 unfold ri
 rw[av u,M]
 exact av (iR.mpr h)
theorem NZ{o:aj}{N p v:Nat}(h:v<64):ri ⟨o,0,N,p⟩ (bK v)=⟨o,1,v,0⟩:=Km h
theorem N0{o:aj}{N p v:Nat}(h:v<64):ri ⟨o,1,N,p⟩ (bK v)=⟨o++[N*4+v/16],2,v%16,0⟩:=by
 rw[Km h]
 refine(?_:A2.mk (o++[N*2^2|||v/2^4]) 2 (v&&&15) 0=_)
 rw[xD 2 (iI (m:=16) h),HL]
theorem QU{o:aj}{N p v:Nat}(h:v<64):ri ⟨o,2,N,p⟩ (bK v)=⟨o++[N*16+v/4],3,v%4,0⟩:=by
 rw[Km h]
 refine(?_:A2.mk (o++[N*2^4|||v/2^2]) 3 (v&&&3) 0=_)
 rw[xD 4 (iI (m:=4) h),LV]
theorem Uj{o:aj}{N p v:Nat}(h:v<64):ri ⟨o,3,N,p⟩ (bK v)=⟨o++[N*64+v],0,0,0⟩:=by
 rw[Km h]
 refine(?_:A2.mk (o++[N*2^6|||v]) 0 0 0=_)
 rw[xD 6 h]
theorem HM(s:A2):ri s 61={s with nE:=s.nE+1}:=rfl
noncomputable def jk(l:aj):aj:=match l with
 |[]=>[]
 |a::l=>match l with
  |[]=>[bK (a/4),bK (a%4*16),61,61]
  |b::l=>match l with
   |[]=>[bK (a/4),bK (a%4*16+b/16),bK (b%16*4),61]
   |c::l=>bK (a/4)::bK (a%4*16+b/16)::bK (b%16*4+c/64)::bK (c%64)::jk l
theorem HN(a:Nat):jk [a]=[bK (a/4),bK (a%4*16),61,61]:=rfl
theorem HO(a b:Nat):jk [a,b]=[bK (a/4),bK (a%4*16+b/16),bK (b%16*4),61]:=rfl
theorem CM(a b c:Nat)(l:aj):jk (a::b::c::l)=bK (a/4)::bK (a%4*16+b/16)::bK (b%16*4+c/64)::bK (c%64)::jk l:=rfl
theorem N1{P:aj->Prop}(q:P [])(M:∀a,a<256->P [a])(u:∀a b,a<256->b<256->P [a,b])(r:∀a b c l,a<256->b<256->c<256->P l->P (a::b::c::l))(l:aj)(U:∀b∈l,b<256):P l:=by
 have:P l/\(∀a,a<256->P (a::l))/\∀a b,a<256->b<256->P (a::b::l):=by
  induction l with
  |nil=>exact⟨q,M,u⟩
  |cons c l y=>
   have i:=y λ b h=>U b (.tail _ h)
   have C:=U c (.head _)
   exact⟨i.2.1 c C,λ a z=>i.2.2 a c z C,λ a b z U=>r a b c l z U C i.1⟩
 exact this.1
theorem q1{a:Nat}(h:a<256):a/4<64:=iI (m:=4) (n:=64) h
theorem q2{a b:Nat}(h:b<256):a%4*16+b/16<64:=LX (n:=4) (m:=16) (eA _ (by decide)) (iI (m:=16) (n:=16) h)
theorem q3{b c:Nat}(h:c<256):b%16*4+c/64<64:=LX (n:=16) (m:=4) (eA _ (by decide)) (iI (m:=64) (n:=4) h)
theorem q4{c:Nat}:c%64<64:=eA _ (by decide)
theorem LY{l:aj}(U:∀b∈l,b<256):∀(out:aj)(L:Nat),Bt (l.foldl x7 ⟨out,0,L⟩)=out++jk l:=N1 (P:=λ l=>∀(out:aj)(L:Nat),Bt (l.foldl x7 ⟨out,0,L⟩)=out++jk l) (λ out L=>(d1 out).symm) (λ a z out L=>by
  refine(?_:Bt (x7 ⟨out,0,L⟩ a)=_)
  rw[NY z]
  refine(?_:out++[bK (a/4)]++[bK ((E0 L a&&&3)*2^4),61,61]=_)
  rw[LV,low L a (k:=4) (j:=64) (n:=16384) rfl rfl,cj,HN]
  rfl) (λ a b z U out L=>by
  refine(?_:Bt (x7 (x7 ⟨out,0,L⟩ a) b)=_)
  rw[NY z,QT U]
  refine(?_:out++[bK (a/4)]++[bK (E0 L a%4*16+b/16)]++[bK ((E0 (E0 L a) b&&&15)*2^2),61]=_)
  rw[HL,low L a (k:=4) (j:=64) (n:=16384) rfl rfl,low _ b (k:=16) (j:=16) (n:=4096) rfl rfl,cj,cj,HO]
  rfl) (λ a b c l z U C y out L=>by
  refine(?_:Bt (l.foldl x7 (x7 (x7 (x7 ⟨out,0,L⟩ a) b) c))=_)
  rw[NY z,QT U,Ui C,y,low L a (k:=4) (j:=64) (n:=16384) rfl rfl,low _ b (k:=16) (j:=16) (n:=4096) rfl rfl,cj,cj,cj,cj,CM]
  rfl) l U
theorem r1{a b:Nat}(h:b<256):a/4*4+(a%4*16+b/16)/16=a:=by exact EC 16 (iI (m:=16) (n:=16) h)▸Nat.div_add_mod' a 4
theorem r2{a b c:Nat}(h:b<256)(C:c<256):(a%4*16+b/16)%16*16+(b%16*4+c/64)/4=b:=by rw[ED 16 (iI (m:=16) (n:=16) h),EC 4 (iI (m:=64) (n:=4) C)];exact Nat.div_add_mod' b 16
theorem r3{b c:Nat}(C:c<256):(b%16*4+c/64)%4*64+c%64=c:=by rw[ED 4 (iI (m:=64) (n:=4) C)];exact Nat.div_add_mod' c 64
theorem XD(a:Nat):a/4*4+a%4*16/16=a:=by have:=r1 (a:=a) (b:=0) (by decide);rwa[Nat.zero_div,Nat.add_zero]at this
theorem XE{a b:Nat}(h:b<256):(a%4*16+b/16)%16*16+b%16*4/4=b:=by have:=r2 (a:=a) (c:=0) h (by decide);rwa[Nat.zero_div,Nat.add_zero]at this
theorem z4{a:Nat}:a%4*16<64:=q2 (a:=a) (b:=0) (by decide)
theorem z6{b:Nat}:b%16*4<64:=q3 (b:=b) (c:=0) (by decide)
structure Bx(o:aj)(s:A2):Prop where
 out:s.out=o
 q:s.q≠1
 p:s.q=0\/4<=s.q+s.nE
theorem QV{l:aj}(U:∀b∈l,b<256):∀(o:aj)(N p:Nat),Bx (o++l) ((jk l).foldl ri ⟨o,0,N,p⟩):=N1 (P:=λ l=>∀(o:aj)(N p:Nat),Bx (o++l) ((jk l).foldl ri ⟨o,0,N,p⟩)) (λ o N p=>⟨(d1 o).symm,nofun,.inl rfl⟩) (λ a z o N p=>by
  rw[HN,gr,gr,NZ (q1 z),N0 z4,XD,gr,HM,gr,HM,List.foldl_nil]
  exact⟨rfl,(by decide:(2:Nat)≠1),.inr (ai 4)⟩) (λ a b z U o N p=>by
  rw[HO,gr,gr,gr,NZ (q1 z),N0 (q2 U),QU z6,r1 U,XE U,cj,gr,HM,List.foldl_nil]
  exact⟨rfl,(by decide:(3:Nat)≠1),.inr (ai 4)⟩) (λ a b c l z U C y o N p=>by
  rw[CM,gr,gr,gr,gr,NZ (q1 z),N0 (q2 U),QU (q3 C),Uj q4,r1 U,r2 U C,r3 C]
  have:=y (o++[a]++[b]++[c]) 0 0
  rw[show o++[a]++[b]++[c]++l=o++a::b::c::l by rw[cj,cj,cj];rfl]at this
  exact this) l U
theorem Kn{l:aj}(U:∀b∈l,b<256):(∀c∈jk l,c∈61::gY)/\(l≠[]->4<=(jk l).length)/\3*(jk l).length<=4*l.length+8:=by
 have g:∀{v:Nat},v<64->bK v∈61::gY:=λ h=> .tail _ (LW h).2.2
 have four:∀{x y z w:Nat}{l:aj},x∈61::gY->y∈61::gY->z∈61::gY->w∈61::gY->(∀c∈l,c∈61::gY)->∀c∈x::y::z::w::l,c∈61::gY:=λ I j i m N=>dy.mpr ⟨I,dy.mpr ⟨j,dy.mpr ⟨i,dy.mpr ⟨m,N⟩⟩⟩⟩
 refine N1 (P:=λ l=>(∀c∈jk l,c∈61::gY)/\(l≠[]->4<=(jk l).length)/\3*(jk l).length<=4*l.length+8) ⟨nofun,λ h=>absurd rfl h,by decide⟩ (λ a T=> ?_) (λ a b T U=> ?_) (λ a b c l T U C E=> ?_) l U
 ·rw[HN]
  refine⟨four (g (q1 T)) (g z4) (.head _) (.head _) nofun,λ D=> ?_,?_⟩
  ·exact ai 4
  ·exact ai 12
 ·rw[HO]
  refine⟨four (g (q1 T)) (g (q2 U)) (g z6) (.head _) nofun,λ D=> ?_,?_⟩
  ·exact ai 4
  ·exact(by decide:12<=16)
 ·rw[CM]
  refine⟨four (g (q1 T)) (g (q2 U)) (g (q3 C)) (g q4) E.1,λ D=>lg 4 _,?_⟩
  refine(?_:3*((jk l).length+4)<=4*(l.length+3)+8)
  rw[Nat.mul_add,Nat.mul_add,iQ]
  exact eh E.2.2 12
structure i6(m1 m2:Nat):Prop where
 ne:m1≠m2
 h1:m1∉61::gY
 h2:m2∉61::gY
 l1:m1<128
 l2:m2<128
 t1:m1≠9/\m1≠13
 t2:m2≠9/\m2≠13
theorem QW{m1 m2 c:Nat}(M:i6 m1 m2)(C:c∈61::gY):ws m1 m2 (sw m1 m2 c)=c:=by
 unfold sw
 by_cases e:c=43
 ·rw[aw e,e]
  unfold ws
  rw[av M.ne,aw rfl]
 ·rw[av e]
  by_cases e:c=47
  ·rw[aw e,e]
   unfold ws
   rw[aw rfl]
  ·rw[av e]
   unfold ws
   rw[av (λ e:c=m2=>M.h2 (e▸C)),av (λ e:c=m1=>M.h1 (e▸C))]
structure N2(m1 m2:Nat)(l:aj):Prop where
 rd:Bx l (dec m1 m2 (enc m1 m2 l))
 sg:∀c∈enc m1 m2 l,c<128/\(c=m1\/c=m2\/c∈61::gY)
 l4:l≠[]->4<=(enc m1 m2 l).length
 l3:3*(enc m1 m2 l).length<=4*l.length+8
theorem xE{m1 m2:Nat}(M:i6 m1 m2){l:aj}(U:∀b∈l,b<256):N2 m1 m2 l:=by
 have N:xx l=jk l:=LY U [] 0
 have s:=Kn U
 have ln:(enc m1 m2 l).length=(jk l).length:=(aX ..).trans (aE List.length N)
 refine⟨?_,λ c C=> ?_,λ h=>ln▸s.2.1 h,ln▸s.2.2⟩
 ·have m:(enc m1 m2 l).map (ws m1 m2)=jk l:=by
   unfold enc
   rw[N,fN]
   exact(ql λ c C=>QW M (s.1 c C)).trans (List.map_id _)
  unfold dec
  exact m▸QV U [] 0 0
 ·obtain⟨G,d,rfl⟩:=cQ.mp C
  have I:=xA l G d
  rw[N]at d
  unfold sw
  by_cases e:G=43
  ·exact aw e▸⟨M.l1,.inl rfl⟩
  ·rw[av e]
   by_cases e:G=47
   ·exact aw e▸⟨M.l2,.inr (.inl rfl)⟩
   ·exact av e▸⟨I,.inr (.inr (s.1 G d))⟩
structure Lx where
 il:Nat
 is:Nat
 ic:Nat
 ig:Nat
 ip:Nat
 text:aj
noncomputable def Lx.has(L:Lx)(i:Nat):Prop:=i=L.il\/i=L.is\/i=L.ic\/i=L.ig\/i=L.ip
noncomputable abbrev Ko:aj:=[10,9,13,32]
structure bE(Y:Mem)(L:Lx)(k:Nat)(pb:ar):Prop where
 l:∃ln:Int,Y.f L.il= .inst 59 [(0,.int ln),(1,.ref L.is),(2,.str Ko),(3,.ref L.ip)]
 s:∃ln:Int,∃q,Y.f L.is= .inst 59 [(0,.int ln),(1,.none),(2,.str Ko),(3,.ref q),(4,.ref L.ic)]
 c:Y.f L.ic= .t5 0 [.str L.text,.ref L.ig]
 g:∃g:ar,Y.f L.ig= .list g/\g.length=k
 p:Y.f L.ip= .list pb
 lt:∀i,L.has i->i<Y.n
 ne:L.ig≠L.ip
 nl:L.il≠L.is
 len:L.text.length<=1000
 kl:k<=L.text.length
noncomputable def zH(L:Lx)(Y σ':Mem):Prop:=Y.n<=σ'.n/\∀i,i<Y.n->i≠L.il->i≠L.ig->σ'.f i=Y.f i
theorem zH.trans{L:Lx}{Y σ' p:Mem}(a:zH L Y σ')(b:zH L σ' p):zH L Y p:=⟨aa a.1 b.1,λ i h M u=>(b.2 i (ah h a.1) M u).trans (a.2 i h M u)⟩
theorem bE.keep{Y σ':Mem}{L:Lx}{k:Nat}{x:ar}(h:bE Y L k x)(w:Y.n<=σ'.n)(H:∀i,L.has i->σ'.f i=Y.f i):bE σ' L k x:=by
 obtain⟨⟨D,l⟩,⟨D,D,s⟩,c,⟨D,g,C⟩,p,lt,ne,nl,len,T⟩:=h
 exact⟨⟨_,(H _ (.inl rfl)).trans l⟩,⟨_,_,(H _ (.inr (.inl rfl))).trans s⟩,(H _ (.inr (.inr (.inl rfl)))).trans c,⟨_,(H _ (.inr (.inr (.inr (.inl rfl))))).trans g,C⟩,(H _ (.inr (.inr (.inr (.inr rfl))))).trans p,λ i hi=>ah (lt i hi) w,ne,nl,len,T⟩
theorem bE.off{L:Lx}{k:Nat}{x:ar}(h:bE Y L k x){j:Nat}(s:¬L.has j)(o:O):bE (Y.set j o) L k x:=h.keep (ai _) λ i hi=>Mem.dS _ _ λ e=>s (e▸hi)
theorem bE.Uk{L:Lx}{k:Nat}{x:ar}(h:bE Y L k x){j:Nat}{fa:Nat}{v:V}(b:Y.f j= .dX fa v):¬L.has j:=λ hi=>by
 obtain⟨⟨D,l⟩,⟨D,D,s⟩,c,⟨D,g,D⟩,p,D⟩:=h
 rcases hi with rfl|rfl|rfl|rfl|rfl
 ·exact nomatch l.symm.trans b
 ·exact nomatch s.symm.trans b
 ·exact nomatch c.symm.trans b
 ·exact nomatch g.symm.trans b
 ·exact nomatch p.symm.trans b
theorem bE.nG{Y σ':Mem}{L:Lx}{k:Nat}{x:ar}(h:bE Y L k x)(ch:zH L Y σ'){j fa:Nat}{v:V}(s:Y.f j= .dX fa v)(w:j<Y.n):σ'.f j= .dX fa v:=(ch.2 j w (λ e=>h.Uk s (.inl e)) (λ e=>h.Uk s (.inr (.inr (.inr (.inl e)))))).trans s
theorem xF(n k:Nat):clipAt n (k:Int)=min k n:=by
 refine(?_:(max (0:Int) (min (if(k:Int)<0 then(k:Int)+(n:Int)else(k:Int)) (n:Int))).toNat=_)
 refine(av (Int.not_lt.mpr (dE k))).symm▸?_
 by_cases h:k<=n
 ·refine(Int.min_eq_left (gq.mpr h)).symm▸(Nat.min_eq_left h).symm▸(Int.max_eq_right (dE k)).symm▸?_;rfl
 ·have h:=Nat.le_of_not_le h
  refine(Int.min_eq_right (gq.mpr h)).symm▸(Nat.min_eq_right h).symm▸(Int.max_eq_right (dE n)).symm▸?_;rfl
theorem N3{l:aj}{k:Nat}:cE l (some (k:Int)) (some ((k:Int)+1))=(l.drop k).take 1:=by
 refine(?_:(l.drop (clipAt l.length (k:Int))).take (clipAt l.length ((k+1:Nat):Int)-clipAt l.length (k:Int))=_)
 rw[xF,xF]
 by_cases h:k<l.length
 ·rw[Nat.min_eq_left (dG h),Nat.min_eq_left h,Nat.succ_sub (ai k),Nat.sub_self]
 ·have h:=Nat.le_of_not_lt h
  rw[Nat.min_eq_right h,List.drop_length,List.drop_eq_nil_of_le h,List.take_nil,List.take_nil]
noncomputable abbrev chars(l:aj):ar:=l.map λ k=> .str [k]
theorem qe(l:aj):(l.take 1).length<=1:=by exact List.length_take▸Nat.min_le_left _ _
theorem HP(H:pn J){i z:Nat}{text:aj}{g:ar}(hi:Y.f i= .t5 0 [.str text,.ref z])(c:Y.f z= .list g)(u:text.length<=1000)(j:g.length<=1000)(h:Q (.str ((text.drop g.length).take 1)) (Y.set z (.list (g++chars ((text.drop g.length).take 1))))):aH J (d+1) (.ref i) [.int 1] [] [] Q Y:=by
 refine rb H _ _ _ hi ?_
 have hlen:Ev J d (.call (.ck 24) [.var 2] [] []) [.int 1,.str text,.ref z,.aF] Y (.int (g.length:Int)):=HC (v:= .ref z) aB rfl (aE Fq c) (aa j (by decide))
 refine cH (v:= .str ((text.drop g.length).take 1)) (λ K k=> ?_) ?_
 ·refine(?_:wE J pg d (.var 1) _ _ _)
  refine(?_:wO J pg d (some _) _ _ _)
  refine hlen _ ?_
  refine(?_:wE J pg d (.bin .Add (.call (.ck 24) [.var 2] [] []) (.var 0)) _ _ _)
  refine Ex (Ev.bin (vb:= .int 1) hlen aB rfl) ?_
  refine(?_:opt (rW Y (.str text) (some (g.length:Int)) (some ((g.length:Int)+1))) _)
  exact(cX ((aw (e:=none) (af (aa u (by decide)))).trans (aE (λ l=>some (V.str l)) N3)) k)
 ·refine gE (cX (aE (jv pg · (.ref z) 2) c) ?_)
  refine dK (J:=J) (d:=d) (v:= .none) (b:= .bm .iT) (ws:=[.ref z,.str ((text.drop g.length).take 1)]) rfl ?_ h
  refine(?_:(match Y.f z with| .list vs=>if short vs&&short ((text.drop g.length).take 1)then _ else none|_=>none)=_)
  exact c▸aw (kS (af (aa j (by decide))) (af (aa (qe _) (by decide))))
theorem o6(H:pn J){L:Lx}{k:Nat}{U:ar}(I:bE Y L k U)(h:∀σ',bE σ' L (k+((L.text.drop k).take 1).length) U->zH L Y σ'->σ'.n=Y.n->Q (.str ((L.text.drop k).take 1)) σ'):aH J (d+2) (.glob aZ) [.ref L.il] [] [] Q Y:=by
 obtain⟨⟨ln,l⟩,⟨ln2,q,s⟩,c,⟨g,M,N⟩,p,lt,ne,nl,len,T⟩:=I
 refine iM H.hd _ ?_
 have n1:L.il≠L.ig:=λ e=>nomatch(e▸l).symm.trans M
 have n2:L.is≠L.ig:=λ e=>nomatch(e▸s).symm.trans M
 have r:L.ic≠L.ig:=λ e=>nomatch(e▸c).symm.trans M
 have b:L.ic≠L.il:=λ e=>nomatch(e▸c).symm.trans l
 have z:L.ip≠L.il:=λ e=>nomatch(e▸p).symm.trans l
 obtain⟨w,m⟩:∃w,(L.text.drop k).take 1=w:=⟨_,rfl⟩
 rw[m]at h
 have n:k+w.length<=L.text.length:=by
  refine m▸List.length_take.symm▸List.length_drop.symm▸?_
  exact aa (gL (Nat.min_le_right _ _) k) (bN (Nat.add_sub_of_le T))
 have t:(g++chars w).length=k+w.length:=by rw[bU,aX,N]
 have j:bE (Y.set L.ig (.list (g++chars w))) L (k+w.length) U:=
  ⟨⟨ln,a8 n1 l⟩,⟨ln2,q,a8 n2 s⟩,a8 r c,⟨g++chars w,Mem.aO _ _ _,t⟩,a8 ne.symm p,lt,ne,nl,len,n⟩
 have E:∀G,bE (((Y.set L.ig (.list (g++chars w)))).set L.il (.inst 59 [(0,.int G),(1,.ref L.is),(2,.str Ko),(3,.ref L.ip)])) L (k+w.length) U:=λ G=>⟨⟨G,Mem.aO _ _ _⟩,⟨ln2,q,a8 nl.symm (a8 n2 s)⟩,a8 b (a8 r c),⟨g++chars w,a8 n1.symm (Mem.aO _ _ _),t⟩,a8 z (a8 ne.symm p),lt,ne,nl,len,n⟩
 have o:Ev J (d+1) (.attr (.var 0) 1) [.ref L.il,.aF] Y (.ref L.is):=gH aB l rfl rfl nofun
 have y:R5 J (d+1) (.aY (.attr (.var 0) 1) 12 [.lit (.int 1)]) [.ref L.il,.aF] Y (.str w) (Y.set L.ig (.list (g++chars w))):=λ K k=>jL (x:=(.ref L.ic,[])) o (aE (jv pg · (.ref L.is) 12) s) (by
  refine(?_:aH J (d+1) (.ref L.ic) [.int 1] [] [] K Y)
  refine HP H c M len (aa (bN N) (aa T len)) ?_
  refine N.symm▸m.symm▸?_
  exact k)
 refine rh y ?_
 refine(?_:wSs J pg (d+1) _ _ [.ref L.il,.str w] (Y.set L.ig (.list (g++chars w))))
 refine qa (w==[10]) (Ev.cmp aB aB rfl) (λ D=> ?_) (λ D=> ?_)
 ·refine gE ?_
  refine(?_:(match(Y.set L.ig (.list (g++chars w))).f L.il with| .inst C as=>_|_=>False))
  refine(a8 n1 l).symm▸?_
  refine⟨rfl,?_⟩
  refine(?_:(match(Y.set L.ig (.list (g++chars w))).f L.il with| .inst v a=>_|_=>False))
  exact a8 n1 l▸⟨rfl,by decide,(by decide:4<=100),h _ (E (ln+1)) ⟨ai _,λ i D A u=>(Mem.dS _ _ A).trans (Mem.dS _ _ u)⟩ rfl⟩
 ·exact h _ j ⟨ai _,λ i D D u=>Mem.dS _ _ u⟩ rfl
inductive Rd(J:Cx)(d:Nat)(i j:Nat)(L:Lx)(body r:List MS)(Q:Fl->ar->Mem->Prop)(I:Nat->ar->Mem->Prop)(n:Nat)(B:ar)(Y:Mem):Prop where
 |fin (h1:Y.f j= .qR) (h2:wSs J pg (d+3) r Q B Y):Rd J d i j L body r Q I n B Y
 |on (k:Nat) (hL:bE Y L k []) (hj:Y.f j= .dX aZ (.ref L.il)) (hn:j<Y.n) (h3:L.text.drop k=[]->∀σ',bE σ' L k []->zH L Y σ'->wSs J pg (d+3) r Q B (σ'.set j .qR)) (h4:∀c rest,L.text.drop k=c::rest->∀σ',bE σ' L (k+1) []->zH L Y σ'->∀K:Fl->ar->Mem->Prop,(∀m bj σ',m<n->I m bj σ'->K .next bj σ'/\K .cont bj σ')->(∀w bj σ',Q (.ret w) bj σ'->K (.ret w) bj σ')->wSs J pg (d+3) body K (B.set i (.str [c])) σ'):Rd J d i j L body r Q I n B Y
theorem LZ(H:pn J){i:Nat}{it:ME}{body r:List MS}{Q:Fl->ar->Mem->Prop}{j:Nat}{L:Lx}(hit:Ev J (d+3) it B Y (.ref j))(I:Nat->ar->Mem->Prop)(n:Nat)(v:I n B Y)(C:∀n B Y,I n B Y->Rd J d i j L body r Q I n B Y):wSs J pg (d+3) (.oq i it body::r) Q B Y:=by
 refine gE (hit _ ⟨I,n,v,λ n B Y h=> ?_⟩)
 cases C n B Y h with
 |fin M z=>refine M.symm▸?_;exact z
 |on k u s f a g=>
  refine s.symm▸?_
  refine⟨⟨59,rfl,rfl⟩,?_⟩
  refine(?_:aH J (d+2) (.glob aZ) [.ref L.il] [] [] _ Y)
  refine o6 H u λ σ' l ch A=>⟨u.nG ch s f,?_⟩
  cases b:L.text.drop k with
  |nil=>
   rw[b]at l
   exact a b σ' l ch
  |cons c rest=>
   rw[b]at l
   exact g c rest b σ' l ch _ (λ m o σ' hm hi=>⟨⟨m,hm,hi⟩,⟨m,hm,hi⟩⟩) λ w o σ' q=>q
noncomputable def kg(p:Nat->Bool)(l:aj):Bool->aj->aj×aj:=match l with
 |[]=>λ D acc=>(acc,[])
 |c::r=>λ e acc=>match e with
  |true=>kg p r false (acc++[c])
  |false=>if p c=true then(acc,r)else if c=92 then kg p r true acc else kg p r false (acc++[c])
noncomputable def isQ(c:Nat):Bool:=decide (c=34)
noncomputable def IV(c:Nat):Bool:=decide (c∈Ko)
noncomputable def tG(l:aj):aj×aj:=match l with
 |[]=>([],[])
 |c::r=>if IV c=true then tG r else if c=34 then kg isQ r false []else kg IV (c::r) false []
theorem qf{p:Nat->Bool}{c:Nat}{r acc:aj}(h:p c=true):kg p (c::r) false acc=(acc,r):=aw h
theorem xG{p:Nat->Bool}{c:Nat}{r acc:aj}(h:p c=false)(u:c≠92):kg p (c::r) false acc=kg p r false (acc++[c]):=(av (by refine h.symm▸?_;nofun)).trans (av u)
theorem tH{p:Nat->Bool}{r acc:aj}(h:p 92=false):kg p (92::r) false acc=kg p r true acc:=(av (by refine h.symm▸?_;nofun)).trans (aw rfl)
theorem vH{p:Nat->Bool}{r acc:aj}:kg p r true acc=kg p (r.drop 1) false (acc++r.take 1):=by
 induction r with
 |nil=>exact aE (·,[]) (d1 acc).symm
 |cons c r=>rfl
theorem drop_cons{l:aj}{k c:Nat}{r:aj}(h:l.drop k=c::r):l.drop (k+1)=r:=by
 refine List.drop_drop▸h.symm▸?_;rfl
theorem zI{l r:aj}{k:Nat}(h:l.drop k=r):l.drop (k+(r.take 1).length)=r.drop 1:=by
 refine List.drop_drop▸h.symm▸?_
 induction r<;>rfl
noncomputable def x8(L:Lx)(j:Nat)(acc:aj)(v:V):ar:=[.ref L.il,.str acc,.ref j,v]
theorem HQ(H:pn J){r:List MS}{Q:Fl->ar->Mem->Prop}{L:Lx}{k j:Nat}(I:bE Y L k []){v:V}{acc:aj}(h:∀σ',bE σ' L (k+((L.text.drop k).take 1).length) []->zH L Y σ'->wSs J pg (d+3) r Q (x8 L j acc (.str ((L.text.drop k).take 1))) σ'):wSs J pg (d+3) (.assign [.var 3] (.aY (.var 0) 15 [])::r) Q (x8 L j acc v) Y:=by
 obtain⟨ln,l⟩:=I.l
 refine gE (jL (v:= .ref L.il) (x:=(.glob aZ,[.ref L.il])) aB (aE (jv pg · (.ref L.il) 15) l) ?_)
 refine(?_:aH J (d+3) (.glob aZ) [.ref L.il] [] [] _ Y)
 exact o6 H I λ σ' M u D=>h σ' M u
theorem rI{r:List MS}{Q:Fl->ar->Mem->Prop}{L:Lx}{j:Nat}{acc w:aj}(N:acc.length+w.length<=1001)(h:wSs J pg d r Q (x8 L j (acc++w) (.str w)) Y):wSs J pg d (.aug 1 .Add (.var 3)::r) Q (x8 L j acc (.str w)) Y:=by
 refine gE ?_
 refine(?_:opt (wi Y .Add (.str acc) (.str w)) _)
 exact cX (aw (af (aa N (by decide)))) h
structure LI(L:Lx)(dM Y:Mem)(k j:Nat)(acc:aj):Prop where
 lx:bE Y L k []
 ch:zH L dM Y
 jn:dM.n<=j
 jl:j<Y.n
 jc:Y.f j= .dX aZ (.ref L.il)
 al:acc.length<=k
theorem LI.next{L:Lx}{z Y σ':Mem}{k E j:Nat}{acc U:aj}(h:LI L z Y k j acc)(N:bE σ' L E [])(C:zH L Y σ')(y:U.length<=E):LI L z σ' E j U:=⟨N,h.ch.trans C,h.jn,ah h.jl C.1,h.lx.nG C h.jc h.jl,y⟩
theorem LI.lim{L:Lx}{C Y:Mem}{k j:Nat}{acc w:aj}(h:LI L C Y k j acc)(m:w.length<=1):acc.length+w.length<=1001:=fk (aa h.al (aa h.lx.kl h.lx.len)) m
structure zJ(L:Lx)(dM Y:Mem)(j:Nat):Prop where
 lx:∃k,bE Y L k []/\L.text.drop k=[]
 ch:zH L dM Y
 jc:Y.f j= .qR
theorem LI.ended{L:Lx}{z Y σ':Mem}{k E j:Nat}{acc:aj}(h:LI L z Y k j acc)(N:bE σ' L E [])(hd:L.text.drop E=[])(C:zH L Y σ'):zJ L z (σ'.set j .qR) j:=⟨⟨E,N.off (N.Uk (h.lx.nG C h.jc h.jl)) _,hd⟩,⟨(h.ch.trans C).1,λ i hi M u=>(Mem.dS _ _ (az (ah hi h.jn))).trans ((h.ch.trans C).2 i hi M u)⟩,Mem.aO _ _ _⟩
noncomputable def Um(t:ME):List MS:=[.dP t [.ret (.var 1)] [.dP (.cmp .Eq (.var 3) (.lit (.str [92]))) [.assign [.var 3] (.aY (.var 0) 15 [])] []],.aug 1 .Add (.var 3)]
theorem zK(Y:Mem)(c k:Nat):mq Y .Eq (.str [c]) (.str [k])=some (decide (c=k)):=by
 refine(?_:some (([c]:aj)==[k])=_)
 by_cases h:c=k
 ·rw[h,hZ,af rfl]
 ·exact(cg h).symm▸(fS λ e=>h (List.cons.inj e).1).symm▸rfl
theorem xH{a b r:List MS}{Q:Fl->ar->Mem->Prop}{L:Lx}{j c k:Nat}{acc:aj}(M:c=k->wSs J pg d a (nx J d r Q) (x8 L j acc (.str [c])) Y)(u:c≠k->wSs J pg d b (nx J d r Q) (x8 L j acc (.str [c])) Y):wSs J pg d (.dP (.cmp .Eq (.var 3) (.lit (.str [k]))) a b::r) Q (x8 L j acc (.str [c])) Y:=qa _ (.cmp (va:= .str [c]) (vb:= .str [k]) aB aB (zK Y c k)) (λ e=>M (ae e)) λ e=>u (of_decide_eq_false e)
theorem N4{L:Lx}{k j c:Nat}{x:ar}{acc:aj}(h:bE Y L k x):Ev J d (.cmp .In (.var 3) (.attr (.var 0) 2)) (x8 L j acc (.str [c])) Y (.bool (IV c)):=by
 obtain⟨ln,l⟩:=h.l
 exact .cmp (va:= .str [c]) aB (gH aB l rfl rfl nofun) rfl
inductive GI(L:Lx)(p:Nat->Bool)(dM:Mem)(j:Nat)(fin rest:aj)(n:Nat)(B:ar)(Y:Mem):Prop where
 |mk (k:Nat) (acc:aj) (v:V) (h:LI L dM Y k j acc) (hr:B=x8 L j acc v) (hn:n=(L.text.drop k).length) (hf:kg p (L.text.drop k) false acc=(fin,rest)):GI L p dM j fin rest n B Y
theorem HR(H:pn J){t:ME}{p:Nat->Bool}{r:List MS}{Q:Fl->ar->Mem->Prop}{C Y:Mem}{L:Lx}{j k:Nat}{acc fin rest:aj}{v:V}(q:LI L C Y k j acc)(A:kg p (L.text.drop k) false acc=(fin,rest))(U:p 92=false)(u:∀Y k acc c,bE Y L k []->Ev J (d+3) t (x8 L j acc (.str [c])) Y (.bool (p c)))(I:∀i σ' E,bE σ' L E []->L.text.drop E=rest->zH L C σ'->Q (.ret (.str fin)) i σ')(M:rest=[]->∀v σ',zJ L C σ' j->wSs J pg (d+3) r Q (x8 L j fin v) σ'):wSs J pg (d+3) (.oq 3 (.var 2) (Um t)::r) Q (x8 L j acc v) Y:=by
 refine LZ H (j:=j) (L:=L) aB (GI L p C j fin rest) _ ⟨k,acc,v,q,rfl,rfl,A⟩ ?_
 rintro n B Y ⟨k,acc,v,h,rfl,rfl,A⟩
 refine .on k h.lx h.jc h.jl (λ w σ' N ch=> ?_) (λ c m z σ' N ch K k1 k2=> ?_)
 ·rw[w]at A
  obtain⟨rfl,rfl⟩:=Prod.mk.inj A
  exact M rfl v _ (h.ended N w ch)
 have hd:=drop_cons z
 rw[z]at A k1
 have al:=qp h.al
 refine(?_:wSs J pg (d+3) _ K (x8 L j acc (.str [c])) σ')
 refine qa (p c) (u _ _ _ _ N) (λ e=> ?_) (λ e=> ?_)
 ·rw[qf e]at A
  obtain⟨rfl,rfl⟩:=Prod.mk.inj A
  exact k2 _ _ _ (I _ _ (k+1) N hd (h.ch.trans ch))
 refine xH (λ a=> ?_) (λ a=> ?_)
 ·subst a
  rw[tH U,vH]at A
  refine HQ H N λ f l G=> ?_
  rw[hd]at l⊢
  have hd2:=zI hd
  refine Hz (rI (h.lim (qe m)) ?_)
  exact(k1 _ _ _ (by refine hd2.symm▸List.length_drop.symm▸?_;exact Nat.lt_succ_of_le (Nat.sub_le _ _)) ⟨_,_,_,h.next l (ch.trans G) (by exact bU▸eh al _),rfl,rfl,by exact hd2▸A⟩).1
 ·rw[xG e a]at A
  refine Hz (rI (h.lim (ai 1)) ?_)
  exact(k1 _ _ _ (by exact hd▸bF _) ⟨k+1,_,_,h.next N ch (by exact bU▸gI h.al),rfl,rfl,by exact hd▸A⟩).1
inductive TI(L:Lx)(dM:Mem)(j:Nat)(fin rest:aj)(n:Nat)(B:ar)(Y:Mem):Prop where
 |fin (v:V) (h:zJ L dM Y j) (hr:B=x8 L j fin v) (he:rest=[]) (hn:n=0):TI L dM j fin rest n B Y
 |on (k:Nat) (v:V) (h:LI L dM Y k j []) (hr:B=x8 L j [] v) (hn:n=(L.text.drop k).length+1) (hf:tG (L.text.drop k)=(fin,rest)):TI L dM j fin rest n B Y
theorem o7(H:pn J){L:Lx}{k:Nat}(I:bE Y L k [])(h:∀σ' E,bE σ' L E []->L.text.drop E=(tG (L.text.drop k)).2->zH L Y σ'->Q (.str (tG (L.text.drop k)).1) σ'):aH J (d+4) (.glob cI) [.ref L.il] [] [] Q Y:=by
 refine eH H.hd _ ?_
 obtain⟨ln,l⟩:=I.l
 refine HA (.ref L.ip) false (gH aB l rfl rfl nofun) ?_ nofun (λ D=> ?_)
 ·refine(?_:(match(Y.f L.ip).fq with|some vs=>_|none=>none)=_)
  refine I.p.symm▸?_;rfl
 refine eO (cH (v:= .str []) aB (rh (v:= .ref Y.n) (σ':=Y.alloc (.dX aZ (.ref L.il))) (λ K q=> ?_) ?_))
 ·refine(?_:(match Y.f L.il with| .inst C as=>_|_=>False))
  exact l▸⟨rfl,q⟩
 obtain⟨fin,rest,A⟩:∃fin rest,tG (L.text.drop k)=(fin,rest):=⟨_,_,rfl⟩
 rw[A]at h
 have g:LI L Y (Y.alloc (.dX aZ (.ref L.il))) k Y.n []:=
  ⟨I.keep (dC _) λ i hi=>Mem.bD _ _ (az (I.lt i hi)),⟨dC _,λ i hi D D=>Mem.bD _ _ (az hi)⟩,ai _,bF _,Mem.a7 _ _,dF _⟩
 have done:∀v σ',zJ L Y σ' Y.n->rest=[]->wSs J pg (d+3) [.ret (.var 1)] (dg Q) (x8 L Y.n fin v) σ':=λ v σ' e b=>by
  obtain⟨E,s,a⟩:=e.lx
  exact h σ' E s (a.trans b.symm) e.ch
 refine LZ H (j:=Y.n) (L:=L) aB (TI L Y Y.n fin rest) _ (.on k .aF g rfl rfl A) ?_
 rintro n B aJ (⟨v,he,rfl,b,rfl⟩|⟨k,v,M,rfl,rfl,A⟩)
 ·exact .fin he.jc (done v _ he b)
 refine .on k M.lx M.jc M.jl (λ f σ' N ch=> ?_) (λ c m z σ' N ch K k1 k2=> ?_)
 ·rw[f]at A
  obtain⟨rfl,rfl⟩:=Prod.mk.inj A
  exact done v _ (M.ended N f ch) rfl
 have hd:=drop_cons z
 rw[z]at A k1
 refine(?_:wSs J pg (d+3) _ K (x8 L Y.n [] (.str [c])) σ')
 have u:∀x w E,bE w L E []->L.text.drop E=rest->zH L Y w->K (.ret (.str fin)) x w:=λ x w E s a T=>k2 _ _ _ (h w E s a T)
 have U:rest=[]->∀v w,zJ L Y w Y.n->K .next (x8 L Y.n fin v) w:=λ b v w he=>(k1 0 _ _ (Nat.succ_pos _) (.fin v he rfl b rfl)).1
 refine qa (IV c) (N4 N) (λ e=> ?_) (λ e=> ?_)
 ·have t:tG m=(fin,rest):=(aw e).symm.trans A
  exact(k1 _ _ _ (by exact hd▸bF _) (.on (k+1) _ (M.next N ch (dF _)) rfl rfl (by exact hd▸t))).2
 have y:¬IV c=true:=by refine e.symm▸?_;nofun
 refine eO (xH (λ G=> ?_) (λ G=> ?_))
 ·have t:kg isQ m false []=(fin,rest):=(aw G).symm.trans ((av y).symm.trans A)
  exact HR H (p:=isQ) (M.next N ch (dF _)) (by exact hd▸t) rfl (λ Y k acc c D=> .cmp (va:= .str [c]) (vb:= .str [34]) aB aB (zK Y c 34)) u U
 have A:kg IV (c::m) false []=(fin,rest):=(av G).symm.trans ((av y).symm.trans A)
 refine xH (λ o=> ?_) (λ o=> ?_)
 ·subst o
  rw[tH rfl,vH]at A
  refine HQ H N λ aS r Uo=> ?_
  rw[hd]at r⊢
  refine eO (rI (M.lim (qe m)) ?_)
  exact HR H (p:=IV) (M.next r (ch.trans Uo) (by rw[bU];exact eh (dF _) _)) (by exact zI hd▸A) rfl (λ Y k acc c h=>N4 h) u U
 ·rw[xG e o]at A
  refine eO (rI (M.lim (ai 1)) ?_)
  exact HR H (p:=IV) (acc:=[c]) (M.next N ch (gI (dF _))) (by exact hd▸A) rfl (λ Y k acc c h=>N4 h) u U
theorem fG{o e:ME}{k:Nat}{r:List MS}{Q:Fl->ar->Mem->Prop}{Y σ':Mem}{i C:Nat}{as:List (Nat×V)}{v:V}(he:R5 J d e B Y v σ')(E:Ev J d o B σ' (.ref i))(hi:σ'.f i= .inst C as)(z:pg.insts.contains C=true)(H:k<9)(N:as.length<=100)(h:wSs J pg d r Q B (σ'.set i (.inst C (mu as k v)))):wSs J pg d (.assign [.attr o k] e::r) Q B Y:=he _ (E _ (by
  refine(?_:(match σ'.f i with| .inst C as=>_|_=>False))
  exact hi▸⟨z,H,N,h⟩))
theorem rj(H:pn J){L:Lx}{k:Nat}{v:V}{x:ar}(I:bE Y L k (v::x))(C:(v::x).length<=100000)(h:Q v (Y.set L.ip (.list x))):aH J (d+4) (.glob cI) [.ref L.il] [] [] Q Y:=by
 refine eH H.hd _ ?_
 obtain⟨ln,l⟩:=I.l
 have o:Ev J (d+3) (.attr (.var 0) 3) [.ref L.il,.aF,.aF,.aF] Y (.ref L.ip):=gH aB l rfl rfl nofun
 refine HA (.ref L.ip) true o (Br I.p (aa C (by decide))) (λ D=> ?_) nofun
 refine gE (jL o (aE (jv pg · (.ref L.ip) 1) I.p) ?_)
 refine dK (J:=J) (d:=d+3) (b:= .bm .vV) (ws:=[.ref L.ip,.int 0]) (v:=v) rfl ?_ h
 refine(?_:(match Y.f L.ip with| .list vs=>if short vs&&decide ((0:Int)<=0)then _ else none|_=>none)=_)
 exact I.p▸aw (kS (af C) rfl)
theorem uC(H:Hd J){L:Lx}{k:Nat}{v:V}{x:ar}(I:bE Y L k x)(C:x.length<=100000)(h:Q .none (Y.set L.ip (.list (x++[v]))))(n:v≠.aF):aH J (d+1) (.glob fB) [.ref L.il,v] [] [] Q Y:=by
 refine iN H _ _ ?_
 obtain⟨ln,l⟩:=I.l
 refine dB (a:=L.ip) (v:=v) (gH aB l rfl rfl nofun) I.p C (gD.one rfl (HE rfl n)) h
theorem tI(H:Hd J){fp:V}(u:fp≠.aF)(h:∀σ',Ext Y σ'->σ'.n=Y.n+2->σ'.f Y.n= .inst 59 [(0,.int 1),(1,fp),(2,.str Ko),(3,.ref (Y.n+1))]->σ'.f (Y.n+1)= .list []->Q (.ref Y.n) σ'):aH J (d+2) (.glob 59) [fp] [] [] Q Y:=by
 obtain⟨P,q⟩:=H.hK
 refine tj H.ok (.inst 59 []) (.inl rfl) (by refine q.symm▸?_;kernel_rfl) (fI:=jH) (by refine q.symm▸?_;kernel_rfl) (by refine q.symm▸?_;kernel_rfl) ?_
 refine mC H _ _ ?_
 have le:∀{n:Nat},n<=4->n<=100:=λ h=>aa h (by decide)
 refine fG (i:=Y.n) (C:=59) (as:=[]) (v:= .int 1) aB aB (Mem.a7 _ _) rfl (by decide) (dF _) ?_
 refine fG (i:=Y.n) (C:=59) (as:=[(0,.int 1)]) (v:=fp) (σ':=_) (HE rfl u) aB (Mem.aO _ _ _) rfl (by decide) (le (n:=1) (by decide)) ?_
 refine fG (i:=Y.n) (C:=59) (as:=[(0,.int 1),(1,fp)]) (v:= .str Ko) aB aB (Mem.aO _ _ _) rfl (by decide) (le (n:=2) (by decide)) ?_
 refine fG (i:=Y.n) (C:=59) (as:=[(0,.int 1),(1,fp),(2,.str Ko)]) (v:= .ref (Y.n+1)) aB aB (nC (Mem.aO _ _ _) (qo _).symm) rfl (by decide) (le (n:=3) (by decide)) ?_
 refine⟨rfl,h _ ⟨au Y.n 2,λ i hi=> ?_⟩ rfl (Mem.aO _ _ _) (a8 (qo _) (Mem.a7 _ _))⟩
 have n1:i≠Y.n:=az hi
 exact a8 n1 (nC (a8 n1 (a8 n1 (a8 n1 (Mem.bD _ _ n1)))) (az (gO hi)))
theorem off{n a b:Nat}(h:a≠b):n+a≠n+b:=λ e=>h (Nat.add_left_cancel e)
theorem below{n i c:Nat}(h:i<n):i≠n+c:=az (ah h (au _ _))
theorem xI(H:pn J){text:aj}(L:text.length<=1000)(h:∀σ',Ext Y σ'->bE σ' ⟨Y.n+4,Y.n,Y.n+3,Y.n+2,Y.n+5,text⟩ 0 []->σ'.n=Y.n+6->Q (.ref (Y.n+4)) σ'):aH J (d+3) (.glob a6) [.str text] [] [] Q Y:=by
 refine rg H _ ?_
 refine(?_:aH J (d+2) (.glob 59) [.none] [] [] _ Y)
 refine tI H.hd nofun λ C ex M z r=> ?_
 obtain⟨n1,f1⟩:=C
 have M:n1=Y.n+2:=M
 subst M
 refine⟨rfl,rfl,.str text,.ref (Y.n+2),Y.n,59,[(0,.int 1),(1,.none),(2,.str Ko),(3,.ref (Y.n+1))],rfl,nofun,rfl,nofun,rfl,nC z (off (a:=0) (b:=2) (by decide)),rfl,(by decide:4<=100),?_⟩
 refine tI H.hd nofun λ σ' y g1 g2 g3=> ?_
 have g1:σ'.n=Y.n+6:=g1
 have old:∀{i:Nat}{v:O},i<Y.n+4->((((⟨Y.n+2,f1⟩:Mem).alloc (.list [])).alloc (.t5 0 [.str text,.ref (Y.n+2)])).set Y.n (.inst 59 (mu [(0,.int 1),(1,.none),(2,.str Ko),(3,.ref (Y.n+1))] 4 (.ref (Y.n+3))))).f i=v->σ'.f i=v:=λ hi e=>(y.2 _ hi).trans e
 have G:∀{c:Nat},c<4->Y.n+c<Y.n+4:=λ h=>kY h _
 refine h σ' ⟨aa (au _ 6) (bN g1.symm),λ i hi=>old (ah hi (au _ _)) (a8 (below (c:=0) hi) (nC (nC (ex.2 i hi) (below (c:=2) hi)) (below (c:=3) hi)))⟩ ⟨⟨1,g2⟩,⟨1,Y.n+1,old (G (c:=0) (by decide)) (Mem.aO _ _ _)⟩,old (G (c:=3) (by decide)) (a8 (off (b:=0) (by decide)) (Mem.a7 _ _)),⟨[],old (G (c:=2) (by decide)) (a8 (off (b:=0) (by decide)) (nC (Mem.a7 _ _) (off (a:=2) (b:=3) (by decide)))),rfl⟩,g3,λ i hi=> ?_,off (by decide),off (b:=0) (by decide),L,dF _⟩ g1
 refine g1.symm▸?_
 have u:∀{c:Nat},c<6->Y.n+c<Y.n+6:=λ h=>kY h _
 rcases hi with rfl|rfl|rfl|rfl|rfl
 ·exact u (c:=4) (by decide)
 ·exact u (c:=0) (by decide)
 ·exact u (c:=3) (by decide)
 ·exact u (c:=2) (by decide)
 ·exact u (c:=5) (by decide)
noncomputable abbrev need(q:Bool):aj:=if q then[34,92]else[34,92,32,10]
noncomputable def vB(N:aj)(t:aj):aj:=t.flatMap λ c=>if c∈N then[92,c]else[c]
noncomputable def o8(q:Bool)(t:aj):aj:=if q then[34]++vB (need q) t++[34]else vB (need q) t
noncomputable def Ur(t:aj):Prop:=t≠[]/\∀c∈t,c≠9/\c≠13
theorem tJ(N:aj)(c:Nat)(t:aj):vB N (c::t)=(if c∈N then[92,c]else[c])++vB N t:=List.flatMap_cons
theorem xJ(N t:aj):(vB N t).length<=2*t.length:=by
 induction t with
 |nil=>exact ai _
 |cons c t y=>
  rw[tJ,bU]
  refine aa (fk (b:=2) ?_ y) (bN (ff _ _))
  by_cases h:c∈N
  ·exact aw h▸ai _
  ·exact av h▸dC _
theorem EE(q:Bool)(t:aj):(o8 q t).length<=2*t.length+2:=by
 induction q with
 |true=>
  refine(?_:([34]++vB (need true) t++[34]).length<=_)
  rw[bU,bU,ff ([34]:aj).length]
  exact eh (xJ (need true) t) 2
 |false=>exact aa (xJ (need false) t) (au _ 2)
theorem vI{p:Nat->Bool}{N e r:aj}(he:∀acc,kg p e false acc=(acc,r))(U:p 92=false)(M:92∈N)(t:aj):(∀c∈t,c∉N->p c=false)->∀acc,kg p (vB N t++e) false acc=(acc++t,r):=by
 induction t with
 |nil=>exact λ D acc=>(he acc).trans (aE (·,r) (d1 acc).symm)
 |cons c t y=>
  intro hp acc
  have y:=y λ x I=>hp x (.tail _ I)
  have fin:kg p (vB N t++e) false (acc++[c])=(acc++c::t,r):=by rw[y,cj];rfl
  rw[tJ]
  by_cases h:c∈N
  ·exact aw h▸(tH U).trans fin
  ·refine(av h).symm▸?_
   exact(xG (hp c (.head _) h) (λ e=>h (e▸M))).trans fin
theorem CN{c:Nat}(h:c∉[34,92,32,10])(G:c≠9/\c≠13):IV c=false:=cg λ m=>by
 rcases bg.mp m with rfl|m
 ·exact h (.tail _ (.tail _ (.tail _ (.head _))))
 rcases bg.mp m with rfl|m
 ·exact G.1 rfl
 rcases bg.mp m with rfl|m
 ·exact G.2 rfl
 ·exact h (.tail _ (.tail _ (cR.mp m▸.head _)))
theorem vJ(T:List aj):dH [] T=T.flatten:=by
 induction T with
 |nil=>rfl
 |cons x r g=>induction r with
  |nil=>exact(d1 x).symm
  |cons y r=>
   refine(?_:x++[]++dH [] (y::r)=x++(y::r).flatten)
   rw[g,d1]
theorem nH{α:Type}(f:α->aj)(l:List α):strsOf (l.map λ a=>V.str (f a))=some (l.map f):=by
 induction l with
 |nil=>rfl
 |cons a l y=>exact aE (Option.map (f a::·)) y
theorem L3{sep:aj}{vs:ar}{T:List aj}(n:strsOf vs=some T)(M:(dH sep T).length<=100000)(u:T.length<=100000)(r:sep.length<=100000):dY Y (.bm .kD) [.str sep,.list vs]=some (.str (dH sep T),Y):=by
 refine(?_:(match strsOf vs with|some T=>if short (dH sep T)&&short T&&short sep then some (V.str (dH sep T),Y)else none|none=>none)=_)
 exact n▸aw (kS (kS (af M) (af u)) (af r))
theorem zM(H:Hd J)(t:aj)(q:Bool)(u:t.length<=10000)(h:Q (.str (o8 q t)) Y):aH J (d+1) (.glob lI) [.str t,.bool q] [] [] Q Y:=by
 refine tA H _ _ ?_
 refine cH (v:= .str (need q)) (λ K k=>by induction q<;>exact k) ?_
 have N:(vB (need q) t).length<=20000:=aa (xJ (need q) t) (nS 2 u)
 refine cH (v:= .str (vB (need q) t)) (λ K k=> ?_) ?_
 ·refine jL (v:= .str []) (x:=(.bm .kD,[.str []])) aB rfl ?_
  refine(?_:wE J pg d (.comp false _ [3] (.var 0) []) _ _ _)
  refine qL (λ c=> .str [c]) (vi:= .str t) (l:=t) (g:=λ D=>True) aB rfl (λ c=> .str (if c∈need q then[92,c]else[c])) trivial (λ c D K k=> ?_) (aa u (by decide)) ?_
  ·refine QO (v:= .bool (decide (c∈need q))) (Ev.cmp (va:= .str [c]) (vb:= .str (need q)) aB aB rfl) rfl (λ C=> ?_) (λ C=> ?_)
   ·rw[aw (ae C)]at k
    exact k
   ·rw[av (of_decide_eq_false C)]at k
    exact k
  ·have i:dH [] (t.map λ c=>if c∈need q then[92,c]else[c])=vB (need q) t:=vJ _
   refine dK (J:=J) (d:=d) (b:= .bm .kD) (ws:=[.str [],.list (t.map λ c=> .str (if c∈need q then[92,c]else[c]))]) rfl (L3 (nH _ t) (by exact i▸aa N (by decide)) (by rw[aX];exact aa u (by decide)) (dF _)) ?_
   exact i▸k
 ·induction q with
  |false=>exact h
  |true=>
   have M:([34]++vB (need true) t).length<=20001:=gI N
   exact Kj (v:= .str ([34]++vB (need true) t++[34])) (Ev.bin (va:= .str ([34]++vB (need true) t)) (vb:= .str [34]) (Ev.bin (va:= .str [34]) (vb:= .str (vB (need true) t)) aB aB (aw (af (aa (gL N 1) (by decide))))) aB (aw (af (aa (eh M 1) (by decide))))) h
noncomputable def Q1(r:aj):Prop:=r≠[]/\∀b∈r,b<256
theorem Kp{m1 m2:Nat}(M:i6 m1 m2){r:aj}(h:Q1 r):Ur (enc m1 m2 r):=by
 have E:=xE M h.2
 refine⟨λ e=> ?_,λ c C=> ?_⟩
 ·have:=E.l4 h.1;rw[e]at this;exact absurd this (by decide)
 ·rcases(E.sg c C).2 with rfl|rfl|h
  ·exact M.t1
  ·exact M.t2
  ·exact(by decide+kernel:∀c∈61::gY,c≠9/\c≠13) c h
theorem jm{f:ME}{es:List ME}{K:eY}{a:Nat}(A:Ev J (d+1) f B Y (.glob a))(h:wEs J pg (d+1) es (λ vs Y=>aH J (d+1) (.glob a) vs [] [] K Y) B Y):wE J pg (d+1) (.call f es [] []) K B Y:=A _ h
theorem qg{o e:ME}{m:Nat}{K:eY}{v w:V}{x:V×ar}(E:Ev J d o B Y v)(hm:ik pg Y v m=some x)(he:gD J d [e] B Y [w])(h:gB J d x.1 (x.2++[w]) [] [] K Y):wE J pg d (.aY o m [e]) K B Y:=jL E hm (he _ h)
theorem Q2{L:Lx}{k m fa:Nat}{x:ar}(I:bE Y L k x)(H:m≠12)(h:pg.aY 59 m=some fa):ik pg Y (.ref L.il) m=some (.glob fa,[.ref L.il]):=by
 obtain⟨ln,l⟩:=I.l
 refine(aE (jv pg · (.ref L.il) m) l).trans ?_
 refine(?_:(if m=12 then _ else(pg.aY 59 m).map λ fa=>(V.glob fa,[V.ref L.il]))=_)
 rw[av H,h]
 rfl
theorem Ext.lex{Y σ':Mem}{L:Lx}{k:Nat}{x:ar}(e:Ext Y σ')(h:bE Y L k x):bE σ' L k x:=h.keep e.1 λ i hi=>e.2 i (h.lt i hi)
theorem bE.pb{L:Lx}{k:Nat}{x:ar}(h:bE Y L k x)(A:ar):bE (Y.set L.ip (.list A)) L k A:=by
 obtain⟨⟨a,l⟩,⟨b,q,s⟩,c,⟨g,U,N⟩,p,lt,ne,nl,len,T⟩:=h
 exact⟨⟨a,a8 (λ e=>nomatch(e▸l).symm.trans p) l⟩,⟨b,q,a8 (λ e=>nomatch(e▸s).symm.trans p) s⟩,a8 (λ e=>nomatch(e▸c).symm.trans p) c,⟨g,a8 ne U,N⟩,Mem.aO _ _ _,lt,ne,nl,len,T⟩
theorem CO(m1 m2:Nat){l:aj}(N:l.length<=20000):(enc m1 m2 l).length<=40003:=by
 unfold enc
 rw[aX]
 exact aa (zG l) (eh (nS 2 N) 3)
theorem Kq(H:Hd J){e mk:ME}{K:eY}{m1 m2:Nat}(M:i6 m1 m2){l:aj}(he:Ev J (d+3) e B Y (.bytes l))(hm:Ev J (d+3) mk B Y (.bytes [m1,m2]))(G:e.isStar=false)(u:mk.isStar=false)(N:l.length<=20000)(U:∀b∈l,b<256)(h:∀σ',Ext Y σ'->K (.str (enc m1 m2 l)) σ'):wE J pg (d+3) (.aY (.call (.ck 38) [e,mk] [] []) 10 [.lit (.str [97,115,99,105,105])]) K B Y:=by
 have C:∀K:eY,(∀σ',Ext Y σ'->K (.bytes (enc m1 m2 l)) σ')->wE J pg (d+3) (.call (.ck 38) [e,mk] [] []) K B Y:=λ K k=>jm (a:=lH) aB (gD.cons G he (gD.one u hm) _ (xB H l m1 m2 (aa N (by decide)) U k))
 refine C _ λ σ' ex=> ?_
 exact dK (J:=J) (d:=d+3) (b:= .bm .iU) (ws:=[.bytes (enc m1 m2 l),.str [97,115,99,105,105]]) rfl (aw (kS (kS rfl (fg.mpr λ c C=>af ((xE M U).sg c C).1)) (af (aa (CO m1 m2 N) (by decide))))) (h σ' ex)
theorem N7(H:Hd J){m1 m2:Nat}(M:i6 m1 m2){l:aj}(U:∀b∈l,b<256)(N:l.length<=20000)(h:∀σ',Ext Y σ'->Q (.bytes l) σ'):aH J (d+3) (.glob i5) [.str (enc m1 m2 l),.bytes [m1,m2]] [] [] Q Y:=by
 have E:=xE M U
 exact xC H _ l m1 m2 (aa (CO m1 m2 N) (by decide)) (λ c C=>(E.sg c C).1) E.rd.q E.rd.p E.rd.out U h
theorem L4{es:List ME}{r:List MS}{Q:Fl->ar->Mem->Prop}(h:wEs J pg d es (λ vs Y=>Q (.ret (.tuple vs)) B Y) B Y):wSs J pg d (.ret (.tuple es)::r) Q B Y:=h
theorem o9{α:Type}(vs:List α)(o:Nat):idx vs (o:Int)=vs[o]? :=aw (af (dE o))
theorem ne_int{o a:Nat}(h:o≠a):((o:Int)==(a:Int))=false:=fS λ e=>h (Int.ofNat.inj e)
theorem eq_int(a:Nat):((a:Int)==(a:Int))=true:=hZ _
theorem unpack_{is:aj}{e:ME}{r:List MS}{Q:Fl->ar->Mem->Prop}(h:wE J pg d e (λ v Y=>opt (MC Y v) λ vs=>is.length=vs.length/\nx J d r Q .next (ir is vs B) Y) B Y):wSs J pg d (.unpack is e::r) Q B Y:=h
theorem add_list{xs ys:aj}(h:xs.length+ys.length<=1000000):mn Y .Add (.list (nums xs)) (.list (nums ys))=some (.list (nums (xs++ys))):=(aw (af (by rw[bH,bH];exact h))).trans (aE (λ l=>some (V.list l)) (fj (f:=λ k:Nat=>V.int (k:Int)) (l₁:=xs) (l₂:=ys)).symm)
theorem HT(i:Int):Int.fmod i 1000000=((Int.fmod i 1000000).toNat:Int):=(Int.toNat_of_nonneg (by rw[Int.fmod_eq_emod_of_nonneg _ (by decide)];exact Int.emod_nonneg _ (by decide))).symm
theorem HU(l:aj):(l.map λ k:Nat=>(k:Int)).sum=((l.sum:Nat):Int):=by
 induction l with
 |nil=>rfl
 |cons a l y=>exact aE ((a:Int)+·) y
theorem N8{l:aj}(N:l.length<=100000):dY Y (.bi .sum) [.list (nums l)]=some (.int ((l.sum:Nat):Int),Y):=by
 refine(?_:(match intsOf (nums l)with|some is=>if short is then some (V.int is.sum,Y)else none|none=>none)=_)
 rw[qM]
 exact(aw (af (by rw[aX];exact N))).trans (aE (λ i=>some (V.int i,Y)) (HU l))
theorem mi(a b:Nat)(U:b≠0)(L:b<2^64):mn Y .FloorDiv (.int (a:Int)) (.int (b:Int))=some (.int ((a/b:Nat):Int)):=by
 refine(?_:(if decide ((b:Int)≠0)&&small (b:Int)then some ((a:Int).fdiv b)else none).map V.int=_)
 rw[af (show(b:Int)≠0 from λ e=>U (Int.ofNat.inj e)),mh L,Int.fdiv_eq_ediv_of_nonneg _ (dE b),Int.natCast_ediv]
 rfl
theorem CP(a b:Nat):mn Y .Add (.int (a:Int)) (.int (b:Int))=some (.int ((a+b:Nat):Int)):=rfl
theorem By(n:Nat):lD 0 (n:Int) 1=nums (List.range n):=by
 unfold lD
 rw[sJ]
 exact ql λ j D=>aE V.int (by rw[Int.zero_add,Int.mul_one])
theorem Ev.range{k:Nat}{a:ME}{n:Nat}(L:a.isStar=false)(z:Ev J d a B Y (.int (n:Int)))(w:n<=1000):Ev J d (.range k [a]) B Y (.it false (nums (List.range n))):=λ K q=>by
 refine(?_:wEs J pg d [a] (λ vs Y=>opt (Ax vs) λ vs=>K (.it false vs) Y) B Y)
 exact gD.one L z _ (cX ((aw (kS (af (dE n)) (af (gq.mpr (aa w (by decide)))))).trans (aE some (By n))) q)
theorem tK(l:List (Option Bool)):(∀x∈l,x=some true)->allEq l=some true:=by
 induction l with
 |nil=>exact λ D=>rfl
 |cons x l g=>
  intro h
  rw[h x (.head _)]
  refine(?_:(allEq l).map (true&&·)=_)
  rw[g λ y j=>h y (.tail _ j)]
  rfl
theorem HV{α z:Type}(f:α->α->z)(l:List α):List.zipWith f l l=l.map λ a=>f a a:=by
 induction l with
 |nil=>rfl
 |cons a l y=>exact aE (f a a::·) y
theorem Bz{f:V->V->Option Bool}{e:Option Bool}{l:ar}(h:∀v∈l,f v v=some true):yj (some f) e l l=some true:=by
 refine(aw (af rfl)).trans ?_
 refine(?_:allEq (List.zipWith f l l)=_)
 rw[HV]
 exact tK _ λ x I=>by
  obtain⟨v,n,rfl⟩:=cQ.mp I
  exact h v n
theorem zN{n:Nat}{l:ar}(h:∀v∈l,rq n v v=some true):rq (n+1) (.list l) (.list l)=some true:=Bz h
theorem CQ(n:Nat)(s:aj):rq n (.str s) (.str s)=some true:=by
 induction n<;>exact aE some (hZ s)
noncomputable def cJ:Nat->Nat×Nat
 |0=>(34,32)|1=>(92,34)|2=>(32,92)|3=>(34,92)|4=>(10,34)|_=>(92,10)
theorem HW(k:Nat):i6 (cJ k).1 (cJ k).2:=by
 have h:∀k:Fin 6,(cJ k).1≠(cJ k).2/\(cJ k).1∉61::gY/\(cJ k).2∉61::gY/\(cJ k).1<128/\(cJ k).2<128/\((cJ k).1≠9/\(cJ k).1≠13)/\(cJ k).2≠9/\(cJ k).2≠13:=by decide+kernel
 have f:∀k:Fin 6,i6 (cJ k).1 (cJ k).2:=λ k=>let x:=h k;⟨x.1,x.2.1,x.2.2.1,x.2.2.2.1,x.2.2.2.2.1,x.2.2.2.2.2.1,x.2.2.2.2.2.2⟩
 match k with
 |0=>exact f 0
 |1=>exact f 1
 |2=>exact f 2
 |3=>exact f 3
 |4=>exact f 4
 |_+5=>exact f 5
theorem HX{o:ME}{lo hi:Option ME}{vo v:V}{l h:Option Int}(E:Ev J d o B Y vo)(N:∀K:eY,(∀w,jR w=some l->K w Y)->wO J pg d lo K B Y)(r:∀K:eY,(∀w,jR w=some h->K w Y)->wO J pg d hi K B Y)(n:rW Y vo l h=some v):Ev J d (.slice o lo hi) B Y v:=λ K k=>by
 have key:wE J pg d o (λ vo Y=>wO J pg d lo (λ H Y=>wO J pg d hi (λ Q Y=>opt (jR H) λ l=>opt (jR Q) λ h=>opt (rW Y vo l h) λ v=>K v Y) B Y) B Y) B Y:=E _ (N _ λ w m=>r _ λ y G=>cX m (cX G (cX n k)))
 exact key
theorem CR{K:eY}(k:∀w,jR w=some none->K w Y):wO J pg d none K B Y:=k .none rfl
theorem CS{e:ME}{K:eY}{n:Int}(he:Ev J d e B Y (.int n))(k:∀w,jR w=some (some n)->K w Y):wO J pg d (some e) K B Y:=he _ (k _ rfl)
theorem CT{op:CmpOp}{a b:ME}{K:eY}(h:wE J pg d a (λ va Y=>wE J pg d b (λ vb Y=>opt (mq Y op va vb) λ v=>K (.bool v) Y) B Y) B Y):wE J pg d (.cmp op a b) K B Y:=h
theorem xK{es:List ME}{K:ar->Mem->Prop}{vs:ar}(he:gD J d es B Y vs)(k:K vs Y):wEs J pg d es K B Y:=he _ k
theorem N9{t:ME}{a b r:List MS}{Q:Fl->ar->Mem->Prop}(h:wE J pg d t (λ v Y=>opt (b6 Y v) λ q=>match q with
   |true=>wSs J pg d a (nx J d r Q) B Y
   |false=>wSs J pg d b (nx J d r Q) B Y) B Y):wSs J pg d (.dP t a b::r) Q B Y:=h
theorem EF(k:Nat)(H:k<6):gA Y (.list [.str [34,32],.str [92,34],.str [32,92],.str [34,92],.str [10,34],.str [92,10]]) (.int (k:Int))=some (.str [(cJ k).1,(cJ k).2]):=by
 match k,H with
 |0,_=>rfl
 |1,_=>rfl
 |2,_=>rfl
 |3,_=>rfl
 |4,_=>rfl
 |5,_=>rfl
 |k+6,h=>exact absurd h (aC (lg _ _))
theorem Kr{m1 m2:Nat}(M:i6 m1 m2):dY Y (.bm .gd) [.str [m1,m2],.str [97,115,99,105,105]]=some (.bytes [m1,m2],Y):=aw (kS (kS rfl (kS (af M.l1) (kS (af M.l2) rfl))) rfl)
theorem Ks{e:ME}{r:List MS}{Q:Fl->ar->Mem->Prop}(h:wE J pg d e (λ v Y=>Q (.ret v) B Y) B Y):wSs J pg d (.ret e::r) Q B Y:=h
noncomputable def upd{α:Type}(f:Nat->α)(o:Nat)(v:α):Nat->α:=λ x=>if x=o then v else f x
theorem bo{α:Type}(f:Nat->α)(o:Nat)(v:α):upd f o v o=v:=aw rfl
theorem bT{α:Type}(f:Nat->α){o x:Nat}(v:α)(h:x≠o):upd f o v x=f x:=av h
noncomputable def ins(keys:aj)(o:Nat):aj:=if o∈keys then keys else keys++[o]
noncomputable def V5:Option (Nat×aj)->V
 |none=> .none
 |some (R,_)=> .ref R
noncomputable def bC(keys:aj)(A:Nat->Nat):List (Int×V):=keys.map λ o:Nat=>((o:Int),V.ref (A o))
structure bw(X:Nat->Prop)(Y:Mem)(S D:Nat)(keys:aj)(A B:Nat->Nat)(np:Nat->Int)(su:Nat->aj)(rd:Option (Nat×aj))(po nf:Int):Prop where
 s:Y.f S= .inst 260 [(5,.ref D),(6,V5 rd),(7,.int po),(8,.int nf)]
 d:∃ep,Y.f D= .dict (bC keys A) ep
 nd:keys.Nodup
 n:∀o∈keys,Y.f (A o)= .node 163 [.int (o:Int),.int (np o),.ref (B o)]
 b:∀o∈keys,Y.f (B o)= .list (nums (su o))
 iA:∀o∈keys,∀o'∈keys,A o=A o'->o=o'
 iB:∀o∈keys,∀o'∈keys,B o=B o'->o=o'
 r:∀R l,rd=some (R,l)->Y.f R= .list (nums l)/\(∀o∈keys,B o≠R)/\R<Y.n/\X R
 lt:S<Y.n/\D<Y.n/\∀o∈keys,A o<Y.n/\B o<Y.n
 nQ:X S/\X D/\∀o∈keys,X (A o)/\X (B o)
 df:∀o,o∉keys->np o=0/\su o=[]
 kl:keys.length<=1000
noncomputable def gm(X:Nat->Prop)(Y σ':Mem):Prop:=Y.n<=σ'.n/\∀i,i<Y.n->¬X i->σ'.f i=Y.f i
theorem gm.refl(X:Nat->Prop)(Y:Mem):gm X Y Y:=⟨ai _,λ D D D=>rfl⟩
theorem gm.trans{X:Nat->Prop}{Y σ' p:Mem}(a:gm X Y σ')(b:gm X σ' p):gm X Y p:=⟨aa a.1 b.1,λ i h I=>(b.2 i (ah h a.1) I).trans (a.2 i h I)⟩
theorem gm.set{X:Nat->Prop}{i:Nat}(hi:X i)(o:O):gm X Y (Y.set i o):=⟨ai _,λ j D I=>Mem.dS _ _ λ e=>I (e▸hi)⟩
theorem gm.kh{X:Nat->Prop}{Y σ':Mem}(e:Ext Y σ'):gm X Y σ':=⟨e.1,λ i h D=>e.2 i h⟩
theorem kj(A:Nat->Nat)(o:Nat)(keys:aj):(bC keys A).lookup (o:Int)=if o∈keys then some (.ref (A o))else none:=by
 induction keys with
 |nil=>rfl
 |cons k keys y=>
  refine(?_:(((k:Int),V.ref (A k))::bC keys A).lookup (o:Int)=_)
  rw[eF]
  by_cases h:o=k
  ·rw[show((o:Int)==(k:Int))=true from dD.mpr (aE Int.ofNat h),aw (h▸.head _),h]
  ·rw[fS λ e:(o:Int)=(k:Int)=>h (Int.ofNat.inj e)]
   refine y.trans ?_
   by_cases m:o∈keys
   ·rw[aw m,aw (.tail _ m)]
   ·rw[av m,av λ q=>m ((bg.mp q).resolve_left h)]
theorem pa{l:List (Int×V)}{k:Int}{v:V}:l.lookup k=none->putD l k v=l++[(k,v)]:=by
 induction l with
 |nil=>exact λ D=>rfl
 |cons p l y=>
  intro h
  rw[eF]at h
  by_cases e:k=p.1
  ·rw[dD.mpr e]at h;exact nomatch h
  ·rw[fS e]at h
   refine(?_:(if p.1=k then _ else(p.1,p.2)::putD l k v)=_)
   rw[av (Ne.symm e),y h]
   rfl
theorem lP{o e:ME}{j:Nat}{r:List MS}{Q:Fl->ar->Mem->Prop}{Y σ':Mem}{i:Nat}{vs:ar}{v:V}(he:R5 J d e B Y v σ')(E:Ev J d o B σ' (.ref i))(hi:σ'.f i= .node 163 vs)(s:j<3)(h:wSs J pg d r Q B (σ'.set i (.node 163 (vs.set j v)))):wSs J pg d (.assign [.slot o j] e::r) Q B Y:=he _ (E _ (by
  refine(?_:(match σ'.f i with| .node C vs=>_|_=>False))
  rw[hi]
  exact⟨rfl,s,h⟩))
theorem tL{o:ME}{j:Nat}{i:Nat}{vs:ar}{w:V}(E:Ev J d o B Y (.ref i))(hi:Y.f i= .node 163 vs)(m:vs[j]? =some w)(A:w≠.aF):Ev J d (.slot o j) B Y w:=λ K q=>E _ (by
 refine(?_:(match Y.f i with| .node C vs=>_|_=>False))
 rw[hi]
 exact⟨rfl,cX m (HD A q)⟩)
theorem HY{o e:ME}{j:Nat}{op:Operator}{r:List MS}{Q:Fl->ar->Mem->Prop}{i:Nat}{vs:ar}{a b v:V}(E:Ev J d o B Y (.ref i))(hi:Y.f i= .node 163 vs)(s:j<3)(z:vs[j]? =some a)(A:a≠.aF)(he:Ev J d e B Y b)(n:wi Y op a b=some (v,Y))(h:wSs J pg d r Q B (Y.set i (.node 163 (vs.set j v)))):wSs J pg d (.iY o j op e::r) Q B Y:=E _ (by
  refine(?_:(match Y.f i with| .node C vs=>_|_=>False))
  rw[hi]
  refine⟨rfl,cX z (HD A (he _ (cX n ?_)))⟩
  refine(?_:(match Y.f i with| .node U g=>_|_=>False))
  rw[hi]
  exact⟨rfl,s,h⟩)
theorem HZ{o e:ME}{k:Nat}{op:Operator}{r:List MS}{Q:Fl->ar->Mem->Prop}{i C:Nat}{as:List (Nat×V)}{a b v:V}(E:Ev J d o B Y (.ref i))(hi:Y.f i= .inst C as)(z:pg.insts.contains C=true)(H:k<9)(N:as.length<=100)(y:as.lookup k=some a)(A:a≠.aF)(he:Ev J d e B Y b)(n:wi Y op a b=some (v,Y))(h:wSs J pg d r Q B (Y.set i (.inst C (mu as k v)))):wSs J pg d (.iX o k op e::r) Q B Y:=E _ (by
  refine(?_:(match Y.f i with| .inst C as=>_|_=>False))
  rw[hi]
  refine⟨z,cX y (HD A (he _ (cX n ?_)))⟩
  refine(?_:(match Y.f i with| .inst U l=>_|_=>False))
  rw[hi]
  exact⟨z,H,N,h⟩)
theorem zO(H:Hd J){o:Int}(h:∀σ',Ext Y σ'->σ'.n=Y.n+2->σ'.f Y.n= .node 163 [.int o,.int 0,.ref (Y.n+1)]->σ'.f (Y.n+1)= .list []->Q (.ref Y.n) σ'):aH J (d+2) (.glob 163) [.int o] [] [] Q Y:=by
 obtain⟨P,q⟩:=H.hK
 refine tj H.ok (.node 163 [.aF,.aF,.aF]) (.inr rfl) (by rw[q];kernel_rfl) (fI:=jK) (by rw[q];kernel_rfl) (by rw[q];kernel_rfl) ?_
 refine mD H _ _ ?_
 refine lP (i:=Y.n) (vs:=[.aF,.aF,.aF]) (v:= .int o) aB aB (Mem.a7 _ _) (by decide) ?_
 refine lP (i:=Y.n) (vs:=[.int o,.aF,.aF]) (v:= .int 0) aB aB (Mem.aO _ _ _) (by decide) ?_
 refine lP (i:=Y.n) (vs:=[.int o,.int 0,.aF]) (v:= .ref (Y.n+1)) aB aB ((Mem.bD _ _ (az (bF _))).trans (Mem.aO _ _ _)) (by decide) ?_
 refine⟨rfl,h _ ⟨au Y.n 2,λ i hi=> ?_⟩ rfl (Mem.aO _ _ _) (a8 (qo _) (Mem.a7 _ _))⟩
 have n1:i≠Y.n:=az hi
 exact a8 n1 (nC (a8 n1 (a8 n1 (Mem.bD _ _ n1))) (az (gO hi)))
structure Q4(Y:Mem)(S D:Nat)(keys:aj)(A B:Nat->Nat)(o:Nat):Prop where
 as:A o≠S
 ad:A o≠D
 bs:B o≠S
 bd:B o≠D
 ab:∀o'∈keys,A o≠B o'
structure Oa(Y:Mem)(S D:Nat)(keys:aj)(A B:Nat->Nat)(rd:Option (Nat×aj)):Prop where
 sd:S≠D
 k:∀o∈keys,Q4 Y S D keys A B o
 r:∀R l,rd=some (R,l)->R≠S/\R≠D/\∀o∈keys,A o≠R/\B o≠R
theorem other{i j:Nat}{a b:O}(M:Y.f i=a)(u:Y.f j=b)(h:a≠b):i≠j:=λ e=>h (M.symm.trans (e▸u))
theorem bw.kinds{X:Nat->Prop}{S D:Nat}{keys:aj}{A B:Nat->Nat}{np:Nat->Int}{T:Nat->aj}{H:Option (Nat×aj)}{po nf:Int}(h:bw X Y S D keys A B np T H po nf):Oa Y S D keys A B H:=by
 obtain⟨ep,hd⟩:=h.d
 exact⟨other h.s hd nofun,λ o E=>⟨other (h.n o E) h.s nofun,other (h.n o E) hd nofun,other (h.b o E) h.s nofun,other (h.b o E) hd nofun,λ M G=>other (h.n o E) (h.b M G) nofun⟩,λ R l b=>⟨other (h.r R l b).1 h.s nofun,other (h.r R l b).1 hd nofun,λ o E=>⟨other (h.n o E) (h.r R l b).1 nofun,(h.r R l b).2.1 o E⟩⟩⟩
theorem bw.keep{X:Nat->Prop}{Y σ':Mem}{S D:Nat}{keys:aj}{A B:Nat->Nat}{np:Nat->Int}{T:Nat->aj}{L:Option (Nat×aj)}{po nf:Int}(h:bw X Y S D keys A B np T L po nf)(w:Y.n<=σ'.n)(H:∀i,i<Y.n->X i->σ'.f i=Y.f i):bw X σ' S D keys A B np T L po nf:=by
 obtain⟨s,⟨ep,d⟩,y,n,b,g,p,r,lt,z,a,m⟩:=h
 have C:∀{i:Nat},i<Y.n->i<σ'.n:=λ h=>ah h w
 exact⟨(H _ lt.1 z.1).trans s,⟨ep,(H _ lt.2.1 z.2.1).trans d⟩,y,λ o E=>(H _ (lt.2.2 o E).1 (z.2.2 o E).1).trans (n o E),λ o E=>(H _ (lt.2.2 o E).2 (z.2.2 o E).2).trans (b o E),g,p,λ R l x=>let q:=r R l x;⟨(H _ q.2.2.1 q.2.2.2).trans q.1,q.2.1,C q.2.2.1,q.2.2.2⟩,⟨C lt.1,C lt.2.1,λ o E=>⟨C (lt.2.2 o E).1,C (lt.2.2 o E).2⟩⟩,z,a,m⟩
theorem L5{D:Nat}{l:List (Int×V)}{ep:Nat}{k:Int}(h:Y.f D= .dict l ep):dY Y (.bm .vW) [.ref D,.int k]=some ((l.lookup k).getD .none,Y):=by
 refine(?_:(match Y.f D with| .dict bC _=>some ((bC.lookup k).getD V.none,Y)|_=>none)=_)
 rw[h]
theorem L6{D:Nat}{l:List (Int×V)}{ep:Nat}(h:Y.f D= .dict l ep):ik pg Y (.ref D) 4=some (.bm .vW,[.ref D]):=aE (jv pg · (.ref D) 4) h
theorem vK{S m fa:Nat}{as:List (Nat×V)}(h:Y.f S= .inst 260 as)(H:m≠12)(hm:pg.aY 260 m=some fa):ik pg Y (.ref S) m=some (.glob fa,[.ref S]):=by
 refine(aE (jv pg · (.ref S) m) h).trans ?_
 refine(?_:(if m=12 then _ else(pg.aY 260 m).map λ fa=>(V.glob fa,[V.ref S]))=_)
 rw[av H,hm]
 rfl
theorem CU{f:Nat->Nat}{keys:aj}{o n m:Nat}(hi:∀x∈keys,∀y∈keys,f x=f y->x=y)(M:∀x∈keys,f x<n)(ne:∀x∈keys,x≠o)(w:n<=m):∀x∈keys++[o],∀y∈keys++[o],upd f o m x=upd f o m y->x=y:=by
 have no:∀{x:Nat},x∈keys->upd f o m x=upd f o m o->False:=λ{x} I e=>by
  rw[bT _ _ (ne x I),bo]at e
  exact az (ah (M x I) w) e
 refine λ x I y j e=>dp I (λ I=>dp j (λ j=> ?_) λ u=> ?_) λ ex=>dp j (λ j=> ?_) λ u=>ex.trans u.symm
 ·rw[bT _ _ (ne x I),bT _ _ (ne y j)]at e;exact hi x I y j e
 ·rw[u]at e;exact(no I e).elim
 ·rw[ex]at e;exact(no j e.symm).elim
theorem Kt{keys:aj}{A:Nat->Nat}{o n:Nat}(ne:∀x∈keys,x≠o):bC keys A++[((o:Int),.ref n)]=bC (keys++[o]) (upd A o n):=by
 unfold bC
 rw[fj]
 refine congr (aE HAppend.hAppend (ql λ x I=> ?_)) ?_
 ·rw[bT _ _ (ne x I)]
 ·refine(?_:_=[((o:Int),V.ref (upd A o n o))])
  rw[bo]
theorem rJ{keys:aj}{o:Nat}(h:o∈keys):ins keys o=keys:=aw h
theorem rK{keys:aj}{o:Nat}(h:o∉keys):ins keys o=keys++[o]:=av h
theorem H0(H:Hd J){X:Nat->Prop}{S b:Nat}{keys:aj}{A c:Nat->Nat}{np:Nat->Int}{T:Nat->aj}{z:Option (Nat×aj)}{po nf:Int}(v:bw X Y S b keys A c np T z po nf)(o:Nat)(hX:∀i,Y.n<=i->X i)(y:keys.length<1000)(h:∀σ' A' N,bw X σ' S b (ins keys o) A' N np T z po nf->gm X Y σ'->Q (.ref (A' o)) σ'):aH J (d+3) (.glob cL) [.ref S,.int (o:Int)] [] [] Q Y:=by
 refine eD H _ _ ?_
 obtain⟨ep,hd⟩:=v.d
 have s:Ev J (d+2) (.aY (.attr (.var 0) 5) 4 [.var 1]) [.ref S,.int (o:Int),.aF] Y (((bC keys A).lookup (o:Int)).getD .none):=λ K k=>qg (gH aB v.s rfl rfl nofun) (L6 hd) (w:= .int (o:Int)) aB (dK rfl (L5 hd) k)
 rw[kj]at s
 refine gE (s _ ?_)
 by_cases E:o∈keys
 ·rw[aw E]
  rw[rJ E]at h
  exact h Y A c v (.refl _ _)
 rw[av E]
 refine(?_:wSs J pg (d+2) (.assign [.sub (.attr (.var 0) 5) (.var 1),.var 2] (.call (.ck 27) [.var 1] [] [])::[]) _ [.ref S,.int (o:Int),.none] Y)
 refine gE ?_
 refine(?_:wE J pg (d+2) (.call (.ck 27) [.var 1] [] []) _ _ _)
 refine jm (d:=d+1) (a:=163) aB ?_
 refine zO H λ L ex n1 u g=> ?_
 have M:=v.keep ex.1 λ i hi D=>ex.2 i hi
 obtain⟨XH,p⟩:=M.d
 refine gH (J:=J) (d:=d+2) (o:= .var 0) (k:=5) (B:=[.ref S,.int (o:Int),.none]) aB M.s rfl rfl nofun _ ?_
 refine(?_:opt (jd L (.ref b) (.int (o:Int)) (.ref Y.n)) _)
 refine cX ((aE (ot L b (o:Int) (.ref Y.n)) p).trans (aw (af (by rw[bC,aX];exact aa (dG y) (by decide))))) λ f=> ?_
 have ne:∀x∈keys,x≠o:=λ x I e=>E (e▸I)
 rw[pa (by rw[kj,av E]),Kt ne]
 refine(?_:Q (.ref Y.n) _)
 rw[rK E]at h
 have C:=M.kinds
 have LX:=v.lt.2.2
 have n:∀x∈keys,A x<L.n/\c x<L.n:=M.lt.2.2
 have j:Y.n≠b:=(az v.lt.2.1).symm
 have t:Y.n+1≠b:=(az (gO v.lt.2.1)).symm
 have m:∀x∈keys,upd A o Y.n x=A x:=λ x I=>bT _ _ (ne x I)
 have U:∀x∈keys,upd c o (Y.n+1) x=c x:=λ x I=>bT _ _ (ne x I)
 have:=h (L.set b (.dict (bC (keys++[o]) (upd A o Y.n)) f)) (upd A o Y.n) (upd c o (Y.n+1)) ⟨a8 C.sd M.s,⟨f,Mem.aO _ _ _⟩,qd v.nd ne,λ x I=>dp I (λ I=> ?_) λ e=> ?_,λ x I=>dp I (λ I=> ?_) λ e=> ?_,
  CU v.iA (λ x I=>(LX x I).1) ne (ai _),CU v.iB (λ x I=>(LX x I).2) ne (dC _),λ R l G=> ?_,⟨M.lt.1,M.lt.2.1,λ x I=>dp I (λ I=> ?_) λ e=> ?_⟩,⟨v.nQ.1,v.nQ.2.1,λ x I=>dp I (λ I=> ?_) λ e=> ?_⟩,λ x I=>v.df x λ r=>I (gP _ r),by rw[bU];exact y⟩ ((gm.kh ex).trans (.set v.nQ.2.1 _))
 ·rw[bo]at this
  exact this
 ·rw[m x I,U x I];exact a8 (C.k x I).ad (M.n x I)
 ·rw[e,bo,bo,(v.df o E).1];exact a8 j u
 ·rw[U x I];exact a8 (C.k x I).bd (M.b x I)
 ·rw[e,bo,(v.df o E).2];exact a8 t g
 ·have q:=M.r R l G
  exact⟨a8 (C.r R l G).2.1 q.1,λ x I=>dp I (λ I=>by rw[U x I];exact q.2.1 x I) (λ e=>by rw[e,bo];exact(az (gO (v.r R l G).2.2.1)).symm),q.2.2⟩
 ·rw[m x I,U x I];exact n x I
 ·rw[e,bo,bo];exact n1▸⟨gO (bF _),bF _⟩
 ·rw[m x I,U x I];exact v.nQ.2.2 x I
 ·rw[e,bo,bo];exact⟨hX _ (ai _),hX _ (dC _)⟩
noncomputable def kL(o:Nat)(T:Nat->aj)(p:Nat):Nat->aj:=upd T p (T p++[o])
theorem bw.CV{X:Nat->Prop}{S D:Nat}{keys:aj}{A B:Nat->Nat}{np:Nat->Int}{T:Nat->aj}{H:Option (Nat×aj)}{po nf:Int}(h:bw X Y S D keys A B np T H po nf){o:Nat}(E:o∈keys)(v:Int):bw X (Y.set (A o) (.node 163 [.int (o:Int),.int v,.ref (B o)])) S D keys A B (upd np o v) T H po nf:=by
 have L:=h.kinds
 obtain⟨s,⟨ep,d⟩,z,n,b,C,y,r,lt,g,a,p⟩:=h
 have k:=L.k o E
 refine⟨a8 k.as.symm s,⟨ep,a8 k.ad.symm d⟩,z,λ x I=> ?_,λ x I=>a8 (k.ab x I).symm (b x I),C,y,λ R l c=>⟨a8 ((L.r R l c).2.2 o E).1.symm (r R l c).1,(r R l c).2⟩,lt,g,λ x I=> ?_,p⟩
 ·by_cases e:x=o
  ·rw[e,bo];exact Mem.aO _ _ _
  ·rw[bT _ _ e];exact a8 (λ q=>e (C x I o E q)) (n x I)
 ·rw[bT _ _ λ e:x=o=>I (e▸E)];exact a x I
theorem bw.Q5{X:Nat->Prop}{S D:Nat}{keys:aj}{A B:Nat->Nat}{np:Nat->Int}{T:Nat->aj}{L:Option (Nat×aj)}{po nf:Int}(h:bw X Y S D keys A B np T L po nf){o:Nat}(E:o∈keys)(l:aj):bw X (Y.set (B o) (.list (nums l))) S D keys A B np (upd T o l) L po nf:=by
 have H:=h.kinds
 obtain⟨s,⟨ep,d⟩,y,n,b,g,z,r,lt,p,a,w⟩:=h
 have k:=H.k o E
 refine⟨a8 k.bs.symm s,⟨ep,a8 k.bd.symm d⟩,y,λ x I=>a8 ((H.k x I).ab o E) (n x I),λ x I=> ?_,g,z,λ R C c=>⟨a8 ((H.r R C c).2.2 o E).2.symm (r R C c).1,(r R C c).2⟩,lt,p,λ x I=> ?_,w⟩
 ·by_cases e:x=o
  ·rw[e,bo];exact Mem.aO _ _ _
  ·rw[bT _ _ e];exact a8 (λ q=>e (z x I o E q)) (b x I)
 ·rw[bT _ _ λ e:x=o=>I (e▸E)];exact a x I
theorem mj(keys:aj)(o:Nat):o∈ins keys o:=by
 by_cases h:o∈keys
 ·rw[rJ h];exact h
 ·rw[rK h];exact kc
theorem CW(keys:aj)(o:Nat):(ins keys o).length<=keys.length+1:=by
 by_cases h:o∈keys
 ·rw[rJ h];exact dC _
 ·rw[rK h,cY];exact ai _
theorem CX{keys:aj}{o x:Nat}(h:x∈keys):x∈ins keys o:=by
 by_cases h':o∈keys
 ·rw[rJ h'];exact h
 ·rw[rK h'];exact gP _ h
inductive Q6(X:Nat->Prop)(Y:Mem)(S D o:Nat)(bV:aj)(np:Nat->Int)(po nf:Int)(kf:aj)(sf:Nat->aj)(ps:aj)(B:ar)(σ':Mem):Prop where
 |mk (keys:aj) (A a:Nat->Nat) (su:Nat->aj) (v3 v4 v5:V) (hr:B=[.ref S,.int (o:Int),.tuple (nums bV),v3,v4,v5]) (h:bw X σ' S D keys A a np su none po nf) (f:gm X Y σ') (e1:ps.foldl ins keys=kf) (e2:ps.foldl (kL o) su=sf) (hk:keys.length+ps.length<1000) (hs:∀x,(su x).length+ps.length<=1000):Q6 X Y S D o bV np po nf kf sf ps B σ'
theorem Ob(H:Hd J){X:Nat->Prop}{S b:Nat}{keys:aj}{A c:Nat->Nat}{np:Nat->Int}{T:Nat->aj}{po nf:Int}(M:bw X Y S b keys A c np T none po nf)(o:Nat)(N:aj)(hX:∀i,Y.n<=i->X i)(C:keys.length+N.length+1<1000)(z:∀x,(T x).length+N.length<=1000)(h:∀σ' A' s,bw X σ' S b (N.foldl ins (ins keys o)) A' s (upd np o (np o+N.length)) (N.foldl (kL o) T) none po nf->gm X Y σ'->Q .none σ'):aH J (d+4) (.glob bz) (.ref S:: .int (o:Int)::nums N) [] [] Q Y:=by
 have y:N.length<=1000:=aa (lg _ _) (z 0)
 refine iG H _ _ _ (af (by rw[bH];exact aa y (by decide))) ?_
 refine qa false (Ev.cmp (va:= .none) (vb:= .none) (gH aB M.s rfl rfl nofun) aB rfl) nofun (λ D=> ?_)
 refine eO (gE (qg (v:= .ref S) aB (vK M.s (by decide) rfl) (w:= .int (o:Int)) aB ?_))
 refine H0 (d:=d) H M o hX (b9 (aa (au _ _) (dC _)) C) λ f n XK G f1=> ?_
 refine(?_:wSs J pg (d+3) _ _ [.ref S,.int (o:Int),.tuple (nums N),.ref (n o),.aF,.aF] f)
 refine HY (a:= .int (np o)) (v:= .int (np o+N.length)) aB (G.n o (mj keys o)) (by decide) rfl nofun (HC (v:= .tuple (nums N)) aB rfl (aE some (bH N)) (aa y (by decide))) rfl ?_
 have j:=G.CV (mj keys o) (np o+N.length)
 refine lM (λ k:Nat=>V.int (k:Int)) (vi:= .tuple (nums N)) (l:=N) (g:=λ D=>True) aB rfl (Q6 X Y S b o N (upd np o (np o+N.length)) po nf (N.foldl ins (ins keys o)) (N.foldl (kL o) T)) ⟨_,_,_,T,_,_,_,rfl,j,f1.trans (.set (G.nQ.2.2 o (mj keys o)).1 _),rfl,rfl,b9 (eh (CW keys o) _) (b9 (bN (iQ _ 1 _)) C),z⟩ (λ D D D D=>trivial) ?_ ?_
 ·rintro p ps B σ' K ⟨q,A',s,u,t,v4,v5,rfl,h',I,e1,e2,E,U⟩ kk
  have m:q.length+1+ps.length<1000:=b9 (bN (iQ _ 1 _)) E
  refine gE (qg (v:= .ref S) aB (vK h'.s (by decide) rfl) (w:= .int (p:Int)) aB ?_)
  refine H0 (d:=d) H h' p (λ i hi=>hX i (aa I.1 hi)) (b9 (aa (dC _) (au _ _)) m) λ aS Uv L r f3=> ?_
  have hp:=mj q p
  refine dB (a:=L p) (v:= .int (o:Int)) (tL (vs:=[.int (p:Int),.int (upd np o (np o+N.length) p),.ref (L p)]) aB (r.n p hp) rfl nofun) (r.b p hp) (by rw[bH];exact aa (aa (au _ _) (U p)) (by decide)) aB ?_
  rw[jM]
  refine(kk _ _ ⟨_,Uv,L,kL o u p,t,_,_,rfl,r.Q5 hp (u p++[o]),(I.trans f3).trans (.set (r.nQ.2.2 p hp).2 _),e1,e2,b9 (eh (CW q p) _) m,λ x=> ?_⟩).1
  unfold kL
  by_cases e:x=p
  ·rw[e,bo,cY];exact aa (bN (iQ _ 1 _)) (U p)
  ·rw[bT _ _ e];exact aa (dC _) (U x)
 ·rintro B σ' ⟨q,A',s,u,t,v4,v5,rfl,h',I,rfl,rfl,E,U⟩
  exact h σ' A' s h' I
noncomputable abbrev zs(l:aj):List Int:=l.map λ o:Nat=>(o:Int)
theorem qh{l:aj}{o:Nat}:(o:Int)∈zs l↔o∈l:=⟨λ h=>by
 obtain⟨a,z,e⟩:=cQ.mp h
 exact Int.ofNat.inj e▸z,λ h=>cQ.mpr ⟨o,h,rfl⟩⟩
theorem xM{n j c:Nat}(h:n+4<=j)(C:c<4):n+c≠j:=λ e=>d0 _ (e▸ah (kY C n) h)
theorem i7{α z:Type}(g:α->z)(F:List α)(f:α):(F++[f]).map g=F.map g++[g f]:=fj
noncomputable abbrev rL:=List (Nat×Nat×Nat)
noncomputable def H2(T:Nat->aj)(f:Nat×Nat×Nat):Nat:=(T f.1).length-f.2.2+1
noncomputable def vL(T:Nat->aj)(xs:aj)(o:Nat):Nat:=bif decide (o∈xs)then 0 else(T o).length+2
noncomputable def IW(keys:aj)(T:Nat->aj)(R:rL)(xs:aj):Nat:=(keys.map (vL T xs)).sum+(R.map (H2 T)).sum
structure Uw(aR Y:Mem)(B:Nat->Nat)(f:Nat×Nat×Nat):Prop where
 a:Y.f f.2.1= .xX (B f.1) f.2.2
 b:aR.n+4<=f.2.1
 c:f.2.1<Y.n
theorem Kv(T:Nat->aj)(xs:aj)(v o:Nat):vL T (xs++[v]) o<=vL T xs o:=by
 delta vL
 by_cases h:o∈xs
 ·rw[af h,af (gP _ h)]
  exact ai _
 ·refine(cg h).symm▸?_
  cases decide (o∈xs++[v])
  ·exact ai _
  ·exact dF _
theorem Od{f g:Nat->Nat}(h:∀o,f o<=g o)(l:aj):(l.map f).sum<=(l.map g).sum:=by
 induction l with
 |nil=>exact ai _
 |cons o l y=>exact fk (h o) y
theorem H3{f g:Nat->Nat}(h:∀o,f o<=g o){v c:Nat}(C:f v+c<=g v){l:aj}(n:v∈l):(l.map f).sum+c<=(l.map g).sum:=by
 induction n with
 |head l=>exact aa (bN (iQ (f v) (l.map f).sum c)) (fk C (Od h l))
 |tail o _ y=>exact aa (bN (gp (f o) _ c)) (fk (h o) y)
theorem H4{keys:aj}{T:Nat->aj}{R:rL}{xs:aj}{v j:Nat}(n:v∈keys)(I:v∉xs):IW keys T ((v,j,0)::R) (xs++[v])<IW keys T R xs:=by
 have h:=H3 (Kv T xs v) (v:=v) (c:=(T v).length+2) (by delta vL;rw[cg I,af kc];exact bN (gM _)) n
 refine(?_:((keys.map (vL T (xs++[v]))).sum+(((T v).length+1)+(R.map (H2 T)).sum))<_)
 rw[<-gp]
 exact Nat.add_lt_add_right (ah (bF _) h) _
theorem H5{keys:aj}{T:Nat->aj}{R:rL}{xs:aj}{o j k:Nat}(h:k<(T o).length):IW keys T ((o,j,k+1)::R) xs<IW keys T ((o,j,k)::R) xs:=kY (Nat.add_lt_add_right (Nat.succ_lt_succ (Nat.sub_lt_sub_left h (bF k))) _) _
theorem Kw{keys:aj}{T:Nat->aj}{R:rL}{xs:aj}{f:Nat×Nat×Nat}:IW keys T R xs<=IW keys T (f::R) xs:=gL (lg _ _) _
theorem ee{α z:Type}(g:α->z)(f:α)(R:List α):(f::R).reverse.map g=R.reverse.map g++[g f]:=by
 exact mG▸fj
noncomputable def Ord(T:Nat->aj):aj->Prop
 |[]=>True
 |v::q=>(∀s∈T v,s∈q)/\Ord T q
noncomputable def Sk(T:Nat->aj)(n:aj):rL->Nat->Prop
 |[],_=>True
 |f::R,v=>v∈T f.1/\(∀s∈(T f.1).take f.2.2,s∈n\/s=v)/\Sk T n R f.1
noncomputable def Tp(T:Nat->aj)(n:aj):rL->Prop
 |[]=>True
 |f::R=>(∀s∈(T f.1).take f.2.2,s∈n)/\Sk T n R f.1
theorem Sk.mono{T:Nat->aj}{f:aj}(o:Nat):∀{R:rL}{v:Nat},Sk T f R v->Sk T (o::f) R v
 |[],_,_=>trivial
 |_::_,_,⟨M,u,r⟩=>⟨M,λ s L=>(u s L).imp (.tail _) id,r.mono o⟩
theorem Sk.pop{T:Nat->aj}{f:aj}{o:Nat}:∀{R:rL},Sk T f R o->Tp T (o::f) R
 |[],_=>trivial
 |_::_,⟨_,u,r⟩=>⟨λ s L=>(u s L).elim (.tail _) λ e=>e▸.head _,r.mono o⟩
theorem Sk.tp{T:Nat->aj}{f:aj}{v:Nat}(n:v∈f):∀{R:rL},Sk T f R v->Tp T f R
 |[],_=>trivial
 |_::_,⟨_,u,r⟩=>⟨λ s L=>(u s L).elim id λ e=>e▸n,r⟩
noncomputable def H6(keys:aj)(T:Nat->aj):Prop:=∃f:aj,Ord T f/\f.Nodup/\∀k∈keys,k∈f
noncomputable def Oe(keys:aj)(T:Nat->aj):Prop:=∃U:aj,U≠[]/\∀c∈U,c∈keys/\∃x∈U,c∈T x
theorem Sk.back{keys:aj}{T:Nat->aj}{t:aj}{v:Nat}:∀{R:rL}{w:Nat},Sk T t R w->(∀f∈R,f.1∈keys)->v∈R.map (·.1)->∃U:aj,v∈U/\(∀c∈U,c∈keys)/\(∀c∈U,c≠v->∃x∈U,c∈T x)/\∃x∈U,w∈T x
 |[],_,_,_,j=>nomatch j
 |f::R,w,⟨M,u,r⟩,H,j=>by
  by_cases e:f.1=v
  ·exact⟨[v],.head _,λ c C=>cR.mp C▸e▸H f (.head _),λ c C n=>absurd (cR.mp C) n,v,.head _,e▸M⟩
  ·obtain⟨U,m,z,L,x,I,l⟩:=r.back (λ g h=>H g (.tail _ h)) ((bg.mp j).resolve_left (Ne.symm e))
   refine⟨f.1::U,.tail _ m,dy.mpr ⟨H f (.head _),z⟩,dy.mpr ⟨λ D=>⟨x,.tail _ I,l⟩,λ c C n=> ?_⟩,f.1,.head _,M⟩
   obtain⟨y,A,d⟩:=L c C n
   exact⟨y,.tail _ A,d⟩
theorem Sk.Ux{keys:aj}{T:Nat->aj}{n:aj}{v:Nat}{R:rL}(h:Sk T n R v)(H:∀f∈R,f.1∈keys)(j:v∈R.map (·.1)):Oe keys T:=by
 obtain⟨U,m,z,L,y⟩:=h.back H j
 refine⟨U,λ e=>(by rw[e]at m;exact absurd m dt),λ c C=>⟨z c C,?_⟩⟩
 by_cases e:c=v
 ·exact e▸y
 ·exact L c C e
structure DG(aR Y:Mem)(keys:aj)(a:Nat->Nat)(su:Nat->aj)(R:rL)(bq xs:aj):Prop where
 ex:Ext aR Y
 n4:aR.n+4<=Y.n
 ha:Y.f aR.n= .list (nums (R.reverse.map (·.1)))
 hb:Y.f (aR.n+1)= .list (R.reverse.map λ f=> .ref f.2.1)
 hs:Y.f (aR.n+2)= .set (zs xs)
 he:∃ep kv,Y.f (aR.n+3)= .dict kv ep/\kv.map (·.1)=zs (R.reverse.map (·.1))/\∀p∈kv,∃i:Int,p.2= .int i
 B:∀f∈R,Uw aR Y a f
 nj:(R.map (·.2.1)).Nodup
 no:(R.map (·.1)++bq).Nodup
 xm:∀x,x∈xs↔x∈R.map (·.1)\/x∈bq
 xk:∀x∈xs,x∈keys
 xn:xs.Nodup
 od:Ord su bq
theorem DG.Uy{f Y:Mem}{keys:aj}{B:Nat->Nat}{T:Nat->aj}{R:rL}{n xs:aj}(h:DG f Y keys B T R n xs):xs.length<=keys.length:=h.xn.length_le_of_subset λ x I=>h.xk x I
theorem DG.sub{n Y:Mem}{keys:aj}{B:Nat->Nat}{T:Nat->aj}{R:rL}{j xs:aj}(h:DG n Y keys B T R j xs):∀f∈R,f.1∈xs:=λ f A=>(h.xm _).mpr (.inl (cQ.mpr ⟨f,A,rfl⟩))
theorem DG.fl{f Y:Mem}{keys:aj}{B:Nat->Nat}{T:Nat->aj}{R:rL}{n xs:aj}(h:DG f Y keys B T R n xs):R.length<=keys.length:=by
 have:=(List.nodup_append.mp h.no).1.length_le_of_subset λ x I=>h.xk x ((h.xm x).mpr (.inl I))
 rw[aX]at this
 exact this
theorem DG.V6{f Y:Mem}{keys:aj}{B:Nat->Nat}{T:Nat->aj}{R:rL}{n xs:aj}(h:DG f Y keys B T R n xs):R.reverse.length<=keys.length:=by refine qm.symm▸?_;exact h.fl
theorem rM{p q:Prop}[Decidable p][Decidable q](h:p↔q):decide p=decide q:=by
 by_cases hp:p
 ·exact(af hp).symm▸(af (h.mp hp)).symm▸rfl
 ·exact(cg hp).symm▸(cg λ s=>hp (h.mpr s)).symm▸rfl
theorem H7{i:Nat}{xs:aj}{o:Nat}(h:Y.f i= .set (zs xs)):mq Y .In (.int (o:Int)) (.ref i)=some (decide (o∈xs)):=(aE (OB · (o:Int)) h).trans (aE some (rM qh))
theorem vM{α:Type}{l:List (Int×α)}{k:Int}(h:k∈l.map (·.1)):(l.lookup k).isSome=true:=by
 induction l with
 |nil=>exact nomatch h
 |cons p l y=>
  rw[eF]
  by_cases e:k=p.1
  ·refine(dD.mpr e).symm▸?_;rfl
  ·exact fS e▸y ((bg.mp h).resolve_left e)
theorem tM{α:Type}{l:List (Int×α)}{k:Int}(h:k∉l.map (·.1)):l.lookup k=none:=by
 induction l with
 |nil=>rfl
 |cons p l y=>
  rw[eF,fS λ e:k=p.1=>h (by exact e▸.head _)]
  exact y λ m=>h (.tail _ m)
theorem H8{i ep:Nat}{N:List (Int×V)}{k:Int}(h:Y.f i= .dict N ep)(H:k∉N.map (·.1)):mq Y .In (.int k) (.ref i)=some false:=(aE (OB · k) h).trans (aE (λ o=>some (Option.isSome o)) (tM H))
theorem H9{α z:Type}(g:α->z)(F:List α)(f:α):((F++[f]).map g).dropLast=F.map g:=by rw[i7];exact List.dropLast_concat
theorem DG.V7{n Y:Mem}{keys:aj}{B:Nat->Nat}{T:Nat->aj}{R:rL}{f:Nat×Nat×Nat}{j xs:aj}(h:DG n Y keys B T (f::R) j xs):∀g∈R,g.2.1≠f.2.1:=λ g c e=>(fh.mp h.nj).1 (cQ.mpr ⟨g,c,e⟩)
theorem DG.top{n Y:Mem}{keys:aj}{B:Nat->Nat}{E:Nat->aj}{R:rL}{o j k:Nat}{t xs:aj}(h:DG n Y keys B E ((o,j,k)::R) t xs):DG n (Y.set j (.xX (B o) (k+1))) keys B E ((o,j,k+1)::R) t xs:=by
 have T:=h.B _ (.head _)
 have e:∀{α:Type}(g:Nat×Nat×Nat->α),g (o,j,k)=g (o,j,k+1)->((o,j,k)::R).reverse.map g=((o,j,k+1)::R).reverse.map g:=λ g e=>(ee g _ R).trans ((aE (λ x=>R.reverse.map g++[x]) e).trans (ee g _ R).symm)
 obtain⟨ep,N,he,v,s⟩:=h.he
 exact⟨h.ex.set (aa (au _ 4) T.b) _,h.n4,a8 (xM (c:=0) T.b (by decide)) (h.ha.trans (aE (λ l=>O.list (nums l)) (e (·.1) rfl))),a8 (xM T.b (by decide)) (h.hb.trans (aE O.list (e (λ f=>V.ref f.2.1) rfl))),a8 (xM T.b (by decide)) h.hs,⟨ep,N,a8 (xM T.b (by decide)) he,v.trans (aE (λ l=>zs l) (e (·.1) rfl)),s⟩,dy.mpr ⟨⟨Mem.aO _ _ _,T.b,T.c⟩,λ f A=>let g:=h.B f (.tail _ A);⟨a8 (h.V7 f A) g.a,g.b,g.c⟩⟩,h.nj,h.no,h.xm,h.xk,h.xn,h.od⟩
theorem DG.pop{n Y:Mem}{keys:aj}{B:Nat->Nat}{E:Nat->aj}{R:rL}{o j k:Nat}{t xs:aj}(h:DG n Y keys B E ((o,j,k)::R) t xs)(hd:∀s∈E o,s∈t){r:Nat}{N:List (Int×V)}(U:N.map (·.1)=zs (((o,j,k)::R).reverse.map (·.1)))(M:∀p∈N,∃i:Int,p.2= .int i):DG n ((((Y.set j .dead).set n.n (.list (nums (((o,j,k)::R).reverse.map (·.1))).dropLast)).set (n.n+3) (.dict (N.filter λ N=> !decide (N.1=(o:Int))) r)).set (n.n+1) (.list (((o,j,k)::R).reverse.map λ f=>V.ref f.2.1).dropLast)) keys B E R (o::t) xs:=by
 have T:=h.B _ (.head _)
 have no:(o::(R.map (·.1)++t)).Nodup:=h.no
 have d:(N.filter λ N=> !decide (N.1=(o:Int))).map (·.1)=zs (R.reverse.map (·.1)):=by
  refine(List.filter_map (f:=λ p:Int×V=>p.1) (p:=λ y=> !decide (y=(o:Int))) (l:=N)).symm.trans ?_
  rw[U,ee,zs,i7,List.filter_append,List.filter_eq_self.mpr λ y Q=> ?_]
  ·refine(show List.filter (λ y:Int=> !decide (y=(o:Int))) [(((o,j,k):Nat×Nat×Nat).1:Int)]=[] by rw[kZ,af rfl];rfl).symm▸?_
   exact d1 _
  ·obtain⟨z,v,rfl⟩:=cQ.mp Q
   rw[cg λ e:(z:Int)=(o:Int)=> ?_];rfl
   rw[Int.ofNat.inj e,List.map_reverse]at v
   exact(fh.mp no).1 (gP _ (fR.mp v))
 have G:(nums (((o,j,k)::R).reverse.map (·.1))).dropLast=nums (R.reverse.map (·.1)):=by rw[ee];exact H9 _ _ _
 have I:(((o,j,k)::R).reverse.map λ f=>V.ref f.2.1).dropLast=R.reverse.map λ f=>V.ref f.2.1:=by rw[ee];exact List.dropLast_concat
 refine⟨((((h.ex.set (aa (au _ 4) T.b) _).set (ai _) _).set (au _ 3) _).set (au _ 1) _),h.n4,a8 (off (a:=0) (by decide)) (a8 (off (a:=0) (by decide)) ((Mem.aO _ _ _).trans (aE O.list G))),(Mem.aO _ _ _).trans (aE O.list I),a8 (off (by decide)) (a8 (off (by decide)) (a8 (off (b:=0) (by decide)) (a8 (xM T.b (by decide)) h.hs))),⟨r,_,a8 (off (by decide)) (Mem.aO _ _ _),d,λ p hp=>M p (jN.mp hp).1⟩,λ f A=> ?_,(fh.mp h.nj).2,List.perm_middle.nodup_iff.mpr no,λ x=>(h.xm x).trans ⟨λ e=> ?_,λ e=> ?_⟩,h.xk,h.xn,hd,h.od⟩
 ·have g:=h.B f (.tail _ A)
  exact⟨a8 (xM g.b (by decide)).symm (a8 (xM g.b (by decide)).symm (a8 (xM (c:=0) g.b (by decide)).symm (a8 (h.V7 f A) g.a))),g.b,g.c⟩
 ·exact e.elim (λ e=>(bg.mp e).elim (λ e=> .inr (e▸.head _)) .inl) λ e=> .inr (.tail _ e)
 ·exact e.elim (λ e=> .inl (.tail _ e)) λ e=>(bg.mp e).elim (λ e=> .inl (e▸.head _)) .inr
theorem DG.push{n Y:Mem}{keys:aj}{B:Nat->Nat}{T:Nat->aj}{R:rL}{j xs:aj}(h:DG n Y keys B T R j xs){v:Nat}(t:v∈keys)(I:v∉xs){r:Nat}{N:List (Int×V)}(a:N.map (·.1)=zs (R.reverse.map (·.1)))(o:∀p∈N,∃i:Int,p.2= .int i)(w:Int):DG n (((((Y.set (n.n+2) (.set (zs (xs++[v])))).alloc (.xX (B v) 0)).set (n.n+1) (.list ((R.reverse.map λ f=>V.ref f.2.1)++[.ref Y.n]))).set (n.n+3) (.dict (N++[((v:Int),.int w)]) r)).set n.n (.list (nums (R.reverse.map (·.1))++[.int (v:Int)]))) keys B T ((v,Y.n,0)::R) j (xs++[v]):=by
 refine⟨((((h.ex.set (au _ 2) _).qb _).set (au _ 1) _).set (au _ 3) _).set (ai _) _,qp h.n4,(Mem.aO _ _ _).trans (aE O.list (by rw[ee];exact(i7 _ _ _).symm)),a8 (off (b:=0) (by decide)) (a8 (off (by decide)) ((Mem.aO _ _ _).trans (aE O.list (ee (λ f=>V.ref f.2.1) (v,Y.n,0) R).symm))),a8 (off (b:=0) (by decide)) (a8 (off (by decide)) (a8 (off (by decide)) (nC (Mem.aO _ _ _) (xM h.n4 (by decide))))),⟨r,_,a8 (off (b:=0) (by decide)) (Mem.aO _ _ _),?_,CH o ⟨w,rfl⟩⟩,dy.mpr ⟨⟨a8 (xM (c:=0) h.n4 (by decide)).symm (a8 (xM h.n4 (by decide)).symm (a8 (xM h.n4 (by decide)).symm (Mem.a7 _ _))),h.n4,bF _⟩,λ f A=> ?_⟩,fh.mpr ⟨λ hm=> ?_,h.nj⟩,fh.mpr ⟨λ hm=>I ((h.xm v).mpr (dZ.mp hm)),h.no⟩,λ x=>⟨λ I=>dp I (λ I=>((h.xm x).mp I).imp (.tail _) id) λ e=> .inl (e▸.head _),λ e=> ?_⟩,λ x I=>dp I (h.xk x) λ e=>e▸t,qd h.xn λ x l e=>I (e▸l),h.od⟩
 ·rw[ee,i7,a]
  exact(i7 _ _ _).symm
 ·have g:=h.B f A
  exact⟨a8 (xM (c:=0) g.b (by decide)).symm (a8 (xM g.b (by decide)).symm (a8 (xM g.b (by decide)).symm (nC (a8 (xM g.b (by decide)).symm g.a) (az g.c)))),g.b,gO g.c⟩
 ·obtain⟨f,A,e⟩:=cQ.mp hm
  exact az (h.B f A).c e
 ·rcases e with e|e
  ·rcases bg.mp e with rfl|e
   ·exact kc
   ·exact gP _ ((h.xm x).mpr (.inl e))
  ·exact gP _ ((h.xm x).mpr (.inr e))
section
theorem Ia{α:Type}{step:V->(Fl->ar->Mem->Prop)->ar->Mem->Prop}{g:Mem->Prop}{Q:Fl->ar->Mem->Prop}(e:α->V)(I:List α->ar->Mem->Prop)(c:∀rest B Y,I rest B Y->g Y)(L:∀a rest B Y(K:Fl->ar->Mem->Prop),I (a::rest) B Y->(∀i σ',I rest i σ'->K .next i σ'/\K .cont i σ')->(∀w i σ',Q (.ret w) i σ'->K (.ret w) i σ')->step (e a) K B Y)(he:∀B Y,I [] B Y->Q .next B Y)(l:List α):∀B Y,I l B Y->forLoop step g (l.map e) Q B Y:=by
 induction l with
 |nil=>exact λ B Y h=>⟨c _ _ _ h,he _ _ h⟩
 |cons a l y=>exact λ B Y h=>⟨c _ _ _ h,L a l B Y _ h (λ i σ' h'=>⟨y i σ' h',y i σ' h'⟩) λ D D D q=>q⟩
variable{r:List MS}{Q:Fl->ar->Mem->Prop}
theorem Q7{α:Type}(e:α->V){i:Nat}{it:ME}{body:List MS}{vi:V}{l:List α}{g:Mem->Prop}(hit:Ev J d it B Y vi)(u:jw Y vi=some (false,l.map e,g))(I:List α->ar->Mem->Prop)(o:I l B Y)(c:∀rest B Y,I rest B Y->g Y)(L:∀a rest B Y(K:Fl->ar->Mem->Prop),I (a::rest) B Y->(∀q σ',I rest q σ'->K .next q σ'/\K .cont q σ')->(∀w q σ',Q (.ret w) q σ'->K (.ret w) q σ')->wSs J pg d body K (B.set i (e a)) Y)(he:∀B Y,I [] B Y->wSs J pg d r Q B Y):wSs J pg d (.eR [i] it body::r) Q B Y:=hit _ (cX u (Ia (step:=λ v K B Y=>opt (lE false [i] v B) λ q=>wSs J pg d body K q Y) (Q:=nx J d r Q) e I c L he l B Y o))
inductive L7(J:Cx)(d:Nat)(t:ME)(body xY r:List MS)(Q:Fl->ar->Mem->Prop)(I:Nat->ar->Mem->Prop)(n:Nat)(B:ar)(Y:Mem):Prop where
 |mk (v:V) (q:Bool) (h1:Ev J d t B Y v) (hv:b6 Y v=some q) (h2:q=true->∀K:Fl->ar->Mem->Prop,(∀m bj σ',m<n->I m bj σ'->K .next bj σ'/\K .cont bj σ')->(∀bj σ',wSs J pg d r Q bj σ'->K .brk bj σ')->(∀w bj σ',Q (.ret w) bj σ'->K (.ret w) bj σ')->wSs J pg d body K B Y) (h3:q=false->wSs J pg d xY (K7 (nx J d r Q)) B Y):L7 J d t body xY r Q I n B Y
theorem Kx{t:ME}{body H:List MS}(I:Nat->ar->Mem->Prop)(n:Nat)(i:I n B Y)(L:∀n B Y,I n B Y->L7 J d t body H r Q I n B Y):wSs J pg d (.ft t body H::r) Q B Y:=gE ⟨I,n,i,λ n B Y h=>by
  obtain⟨v,q,M,j,u,l⟩:=L n B Y h
  refine M _ (cX j ?_)
  induction q with
  |true=>exact u rfl _ (λ m a σ' hm hi=>⟨⟨m,hm,hi⟩,⟨m,hm,hi⟩⟩) (λ a σ' w=>w) λ D D D q=>q
  |false=>exact l rfl⟩
theorem EH{α:Type}(l:List α)(a:α):(l++[a]).isEmpty=false:=by induction l<;>rfl
noncomputable def E1(S D n:Nat)(w:V):ar:=[.ref S,.ref D,.ref n,.ref (n+1),.ref (n+2),.ref (n+3),w]
inductive V8(aR:Mem)(keys:aj)(a:Nat->Nat)(su:Nat->aj)(S D n:Nat)(xs:aj)(m:Nat)(B:ar)(Y:Mem):Prop where
 |mk (R:rL) (bq:aj) (w:V) (hm:m=R.length) (hf:B=E1 S D aR.n w) (h:DG aR Y keys a su R bq xs) (hn:IW keys su R xs<=n) (ht:Tp su bq R):V8 aR keys a su S D n xs m B Y
theorem tN{K:Fl->ar->Mem->Prop}{X:Nat->Prop}{t Y:Mem}{S D:Nat}{keys:aj}{A c:Nat->Nat}{np:Nat->Int}{T:Nat->aj}{y:Option (Nat×aj)}{po nf:Int}(e:bw X t S D keys A c np T y po nf)(E:∀o∈keys,∀x∈T o,x∈keys){R:rL}{r xs:aj}{w:V}{n:Nat}(h:DG t Y keys c T R r xs)(l:IW keys T R xs<=n)(u:Tp T r R)(p:∀U Q v σ',DG t σ' keys c T U Q xs->IW keys T U xs<n->v∈keys->Sk T Q U v->K .next (E1 S D t.n (.int (v:Int))) σ')(Ky:∀Q w σ',DG t σ' keys c T [] Q xs->K .brk (E1 S D t.n w) σ'):wSs J pg d [.ft (.var 2) [.lW 6 2 3 5 31] [.brk]] K (E1 S D t.n w) Y:=by
 refine xw (V8 t keys c T S D n xs) _ ⟨R,r,w,rfl,rfl,h,l,u⟩ ?_
 rintro m B Y ⟨R,r,w,rfl,rfl,h,l,u⟩
 have i:R.reverse.length<=1000:=aa h.V6 e.kl
 have L:∀{α β:Type}(g:(Nat×Nat×Nat)->α)(z:α->β),short ((R.reverse.map g).map z)=true:=λ g z=>af (by rw[aX,aX];exact aa i (by decide))
 refine⟨.ref t.n,!(nums (R.reverse.map (·.1))).isEmpty,λ K k=>k,Br h.ha (by rw[nums,aX,aX];exact aa i (by decide)),λ q K' k1 k2=> ?_,λ q=> ?_⟩
 ·induction R with
  |nil=>exact absurd q (by decide)
  |cons f R=>
  obtain⟨o,j,k⟩:=f
  obtain⟨ep,kv,he,M,IX⟩:=h.he
  have XM:=h.sub _ (.head _)
  have C:=h.xk o XM
  refine gE ?_
  refine(?_:isList (Y.f t.n) _)
  refine h.ha.symm▸?_
  refine(?_:isList (Y.f (t.n+1)) _)
  refine h.hb.symm▸?_
  refine(?_:Ay (Y.f (t.n+3)) _)
  refine he.symm▸?_
  refine(?_:opt (((o,j,k)::R).reverse.map λ f=>V.ref f.2.1).getLast? _)
  refine(ee (λ f:Nat×Nat×Nat=>V.ref f.2.1) (o,j,k) R).symm▸(List.getLast?_concat).symm▸?_
  refine⟨af (by rw[<-ee (λ f:Nat×Nat×Nat=>V.ref f.2.1) (o,j,k) R,aX];exact aa i (by decide)),?_⟩
  refine(?_:Fx (Y.f j) _)
  refine((h.B _ (.head _)).a).symm▸?_
  refine(?_:isList (Y.f (c o)) _)
  refine((h.ex.2 _ (e.lt.2.2 o C).2).trans (e.b o C)).symm▸?_
  refine(?_:(match(nums (T o))[k]?with|some v=>_|none=>_))
  obtain⟨t1,t2⟩:=u
  cases H:(nums (T o))[k]?with
  |some v=>
   rw[nums,gN]at H
   obtain⟨x,I,rfl⟩:=cB.mp H
   have G:=vT I
   refine k2 _ _ (p ((o,j,k+1)::R) r x _ h.top (ah (H5 (List.getElem?_eq_some_iff.mp I).1) l) (E o C x G) ⟨G,λ s L=> ?_,t2⟩)
   have L:s∈(T o).take (k+1):=L
   rw[List.take_add_one,I]at L
   exact dp L (λ L=> .inl (t1 s L)) .inr
  |none=>
   refine(?_:opt (nums (((o,j,k)::R).reverse.map (·.1))).getLast? _)
   have hle:∀s∈T o,s∈r:=λ s L=>t1 s (by
    have N:=List.getElem?_eq_none_iff.mp H
    rw[bH]at N
    refine(?_:s∈(T o).take k)
    refine(List.take_of_length_le N).symm▸?_
    exact L)
   have t8:(nums (((o,j,k)::R).reverse.map (·.1))).getLast?=some (.int (o:Int)):=by
    rw[ee,nums,i7]
    exact List.getLast?_concat
   refine t8.symm▸?_
   have xZ:short kv=true:=af (by have:=aE List.length M;rw[aX,zs,aX,aX]at this;exact this▸aa i (by decide))
   have Ra:o∈((o,j,k)::R).reverse.map (·.1):=cQ.mpr ⟨_,fR.mpr (.head _),rfl⟩
   refine⟨?_,λ nM=> ?_⟩
   ·rw[L,xZ,vM (by exact M▸qh.mpr Ra),cg (show t.n≠t.n+1 from off (a:=0) (b:=1) (by decide))]
    rfl
   ·refine(ee (λ f:Nat×Nat×Nat=>V.ref f.2.1) (o,j,k) R)▸?_
    exact(k1 R.length _ _ (bF _) ⟨R,o::r,w,rfl,rfl,h.pop hle M IX,aa Kw l,t2.pop⟩).1
 ·induction R with
  |nil=>exact Ky r w _ h
  |cons f R=>rw[ee,nums,i7,EH]at q;exact absurd q (by decide)
end
theorem C0{o i e:ME}{r:List MS}{Q:Fl->ar->Mem->Prop}{a ep:Nat}{N:List (Int×V)}{k:Int}{v:V}(he:Ev J d e B Y v)(E:Ev J d o B Y (.ref a))(hi:Ev J d i B Y (.int k))(z:Y.f a= .dict N ep)(L:N.length<=100000)(h:∀l,wSs J pg d r Q B (Y.set a (.dict (putD N k v) l))):wSs J pg d (.assign [.sub o i] e::r) Q B Y:=he _ (E _ (hi _ (by
  have C:jd Y (.ref a) (.int k) v=some λ ep=>Y.set a (.dict (putD N k v) ep):=by
   exact(aE (ot Y a k v) z).trans (aw (af L))
  refine(?_:opt (jd Y (.ref a) (.int k) v) _)
  exact C▸h)))
theorem tP{D ep o:Nat}{keys:aj}{A:Nat->Nat}(h:Y.f D= .dict (bC keys A) ep)(E:o∈keys):gA Y (.ref D) (.int (o:Int))=some (.ref (A o)):=by
 refine(?_:(match Y.f D with| .list vs=>_| .dict bC _=>_|_=>none)=_)
 exact h▸(kj A o keys).trans (aw E)
theorem EI{N:List (Int×V)}{k:Int}(H:k∈N.map (·.1))(h:∀p∈N,∃i:Int,p.2= .int i):∃i:Int,N.lookup k=some (.int i):=by
 induction N with
 |nil=>exact absurd H dt
 |cons p N y=>
  rw[eF]
  by_cases e:k=p.1
  ·obtain⟨i,hi⟩:=h p (.head _)
   exact dD.mpr e▸⟨i,aE some hi⟩
  ·exact fS e▸y ((bg.mp H).resolve_left e) λ p hp=>h p (.tail _ hp)
inductive V9(Y:Mem)(keys:aj)(a:Nat->Nat)(su:Nat->aj)(S D:Nat)(ks:aj)(B:ar)(σ':Mem):Prop where
 |mk (bq xs:aj) (w:V) (hk:∀k∈ks,k∈keys) (hf:B=E1 S D Y.n w) (h:DG Y σ' keys a su [] bq xs) (hr:∀k∈keys,k∈ks\/k∈xs):V9 Y keys a su S D ks B σ'
inductive Wa(Y:Mem)(keys:aj)(a:Nat->Nat)(su:Nat->aj)(S D:Nat)(ks:aj)(v0 n:Nat)(B:ar)(σ':Mem):Prop where
 |mk (R:rL) (bq xs:aj) (v:Nat) (hn:n=IW keys su R xs) (hf:B=E1 S D Y.n (.int (v:Int))) (h:DG Y σ' keys a su R bq xs) (hv:v∈keys) (hl:Sk su bq R v) (hr:∀k∈keys,k∈ks\/k=v0\/k∈xs) (h0:v0∈xs\/v=v0):Wa Y keys a su S D ks v0 n B σ'
theorem BB{α:Type}(l:List α)(a b:Option Int):(cE l a b).length<=l.length:=by
 exact aa (List.length_take_le' _ _) (by exact List.length_drop▸Nat.sub_le _ _)
theorem uD(H:Hd J){X:Nat->Prop}{S g:Nat}{keys:aj}{A j:Nat->Nat}{np:Nat->Int}{T:Nat->aj}{rd:Option (Nat×aj)}{po nf:Int}(q:bw X Y S g keys A j np T rd po nf)(CZ:∀o∈keys,∀x∈T o,x∈keys)(h:∀σ',Ext Y σ'->H6 keys T->Q .none σ')(hc:∀σ' vs,Ext Y σ'->(vs:ar)≠[]->vs.length<=100000->Oe keys T->Q (.list vs) σ'):aH J (d+1) (.glob c9) [.ref S] [] [] Q Y:=by
 refine eV H _ ?_
 obtain⟨XN,hD⟩:=q.d
 have E:=q.kl
 refine cH (v:= .ref g) (gH aB q.s rfl rfl nofun) ?_
 refine rh (v:= .ref Y.n) (σ':=Y.alloc (.list [])) aB ?_
 refine rh (v:= .ref (Y.n+1)) (σ':=(Y.alloc (.list [])).alloc (.list [])) aB ?_
 refine rh (v:= .ref (Y.n+2)) (σ':=((Y.alloc (.list [])).alloc (.list [])).alloc (.set [])) aB ?_
 refine rh (v:= .ref (Y.n+3)) (σ':=(((Y.alloc (.list [])).alloc (.list [])).alloc (.set [])).alloc (.dict [] 0)) aB ?_
 have D0:DG Y ((((Y.alloc (.list [])).alloc (.list [])).alloc (.set [])).alloc (.dict [] 0)) keys j T [] [] []:=
  ⟨((((Ext.alloc Y _).qb _).qb _).qb _),ai _,(Mem.bD _ _ (off (n:=Y.n) (a:=0) (b:=3) (by decide))).trans ((Mem.bD _ _ (off (n:=Y.n) (a:=0) (b:=2) (by decide))).trans ((Mem.bD _ _ (off (n:=Y.n) (a:=0) (b:=1) (by decide))).trans (Mem.a7 _ _))),(Mem.bD _ _ (off (n:=Y.n) (a:=1) (b:=3) (by decide))).trans ((Mem.bD _ _ (off (n:=Y.n) (a:=1) (b:=2) (by decide))).trans (Mem.a7 _ _)),(Mem.bD _ _ (off (n:=Y.n) (a:=2) (b:=3) (by decide))).trans (Mem.a7 _ _),⟨0,[],Mem.a7 _ _,rfl,nofun⟩,nofun,.nil,.nil,λ x=>⟨nofun,λ e=>e.elim nofun nofun⟩,nofun,.nil,trivial⟩
 have Wb:∀{σ':Mem}{R:rL}{r xs:aj},DG Y σ' keys j T R r xs->σ'.f g= .dict (bC keys A) XN:=λ h=>(h.ex.2 _ q.lt.2.1).trans hD
 have Rb:((bC keys A).map (·.1)).map V.int=nums keys:=by skip;refine fN.symm▸fN.symm▸?_;rfl
 refine Q7 (λ k:Nat=>V.int (k:Int)) (vi:= .ref g) (l:=keys) aB ((aE (sv g) (Wb D0)).trans (aE (λ l=>some (false,l,_)) Rb)) (V9 Y keys j T S g) ⟨[],[],.aF,λ D h=>h,rfl,D0,λ k L=> .inl L⟩ ?_ ?_ ?_
 ·rintro rest B σ' ⟨r,xs,w,D,D,M,D⟩
  exact⟨_,Wb M,rfl⟩
 ·rintro U ks B aJ K ⟨r,xs,w,Wc,rfl,M,hr⟩ kk kr
  have XO:U∈keys:=Wc U (.head _)
  have next:∀w σ' t C,DG Y σ' keys j T [] t C->(∀k∈keys,k∈ks\/k=U\/k∈C)->U∈C->K .next (E1 S g Y.n w) σ'/\K .cont (E1 S g Y.n w) σ':=λ w σ' t C G QE N=>kk _ _ ⟨t,C,w,λ k L=>Wc k (.tail _ L),rfl,G,λ k L=>(QE k L).imp id λ e=>e.elim (λ e=>e▸N) id⟩
  have Wd:∀k∈keys,k∈ks\/k=U\/k∈xs:=λ k L=>(hr k L).elim (λ m=>(bg.mp m).elim (λ e=> .inr (.inl e)) .inl) λ m=> .inr (.inr m)
  refine(?_:wSs J pg d _ K (E1 S g Y.n (.int (U:Int))) aJ)
  refine qa (decide (U∈xs)) (Ev.cmp (va:= .int (U:Int)) (vb:= .ref (Y.n+2)) aB aB (H7 M.hs)) (λ e=>(next _ _ r xs M Wd (ae e)).2) (λ D=> ?_)
  refine eO ?_
  refine Kx (Wa Y keys j T S g ks U) _ ⟨[],r,xs,U,rfl,rfl,M,XO,trivial,Wd,.inr rfl⟩ ?_
  rintro n B p ⟨R,r,xs,v,rfl,rfl,hd,u,Uz,UA,We⟩
  refine⟨.bool true,true,λ K k=>k,rfl,λ D K' k1 k2 k3=> ?_,nofun⟩
  have Ky:∀C,(∀k∈keys,k∈ks\/k=U\/k∈C)->U∈C->∀t w σ',DG Y σ' keys j T [] t C->K' .brk (E1 S g Y.n w) σ':=λ C QE N t w σ' G=>k2 _ _ (next w _ t C G QE N).1
  obtain⟨ep,kv,he,z,IX⟩:=hd.he
  have Qi:R.reverse.length<=1000:=aa hd.V6 E
  refine qa (decide (v∈xs)) (Ev.cmp (va:= .int (v:Int)) (vb:= .ref (Y.n+2)) aB aB (H7 hd.hs)) (λ I=> ?_) (λ I=> ?_)
  ·have I:v∈xs:=ae I
   have Rc:U∈xs:=We.elim id λ e=>e▸I
   by_cases hm:(v:Int)∈kv.map (·.1)
   ·have TM:mq p .In (.int (v:Int)) (.ref (Y.n+3))=some true:=(aE (OB · (v:Int)) he).trans (aE some (vM hm))
    refine qa true (Ev.cmp (va:= .int (v:Int)) (vb:= .ref (Y.n+3)) aB aB TM) (λ D=> ?_) nofun
    obtain⟨i,hi⟩:=EI hm IX
    have jb:gA p (.ref (Y.n+3)) (.int (v:Int))=some (.int i):=by
     refine(?_:(match p.f (Y.n+3)with| .list vs=>_| .dict bC _=>_|_=>none)=_)
     exact he▸hi
    have UB:Oe keys T:=by
     rw[z]at hm
     have hm:=qh.mp hm
     rw[List.map_reverse]at hm
     exact Uz.Ux (λ f hf=>hd.xk _ (hd.sub f hf)) (fR.mp hm)
    have y:(nums (R.reverse.map (·.1))).length<=1000:=by rw[nums,aX,aX];exact Qi
    have BU:=BB (nums (R.reverse.map (·.1))) (some i) none
    have Ln:(cE (nums (R.reverse.map (·.1))) (some i) none++[V.int (v:Int)]).length<=1001:=by
     exact bU▸gI (aa BU y)
    refine Kj (v:= .list (cE (nums (R.reverse.map (·.1))) (some i) none++[.int (v:Int)])) (Ev.bin (va:= .list (cE (nums (R.reverse.map (·.1))) (some i) none)) (vb:= .list [.int (v:Int)]) (HX (vo:= .ref Y.n) (l:=some i) (h:=none) aB (λ K k=>CS (Ev.sub (va:= .ref (Y.n+3)) (vb:= .int (v:Int)) aB aB jb) k) (λ K k=>CR k) ?_) aB ?_) (k3 _ _ _ (kr _ _ _ (hc _ _ hd.ex (λ e=> ?_) (aa Ln (by decide)) UB)))
    ·refine(?_:(match(p.f Y.n).fq with|some vs=>if decide (vs.length<=1000000)then some (V.list (cE vs (some i) none))else none|none=>none)=_)
     exact hd.ha▸aw (af (aa y (by decide)))
    ·exact aw (af (by rw[bU]at Ln;exact aa Ln (by decide)))
    ·have:=aE List.length e
     rw[bU]at this
     exact Nat.noConfusion this
   ·have XQ:v∈r:=((hd.xm v).mp I).resolve_left λ m=>hm (by
     refine z.symm▸?_
     refine qh.mpr ?_
     exact List.map_reverse▸fR.mpr m)
    refine qa false (Ev.cmp (va:= .int (v:Int)) (vb:= .ref (Y.n+3)) aB aB (H8 he hm)) nofun (λ D=> ?_)
    refine Hz ?_
    exact tN q CZ hd (ai _) (Uz.tp XQ) (λ R' t v' σ' G hp N ie=>(k1 _ _ _ hp ⟨R',t,xs,v',rfl,rfl,G,N,ie,UA,.inl Rc⟩).1) (Ky xs UA Rc)
  ·have I:v∉xs:=of_decide_eq_false I
   have XR:(v:Int)∉kv.map (·.1):=λ hm=>I ((hd.xm v).mpr (.inl (by
    rw[z]at hm
    have hm:=qh.mp hm
    rw[List.map_reverse]at hm
    exact fR.mp hm)))
   have UC:dY p (.bm .yb) [.ref (Y.n+2),.int (v:Int)]=some (.none,p.set (Y.n+2) (.set (zs (xs++[v])))):=by
    refine(?_:(match p.f (Y.n+2)with| .set xs=>if decide (xs.length<=1000)then _ else none|_=>none)=_)
    refine hd.hs.symm▸?_
    refine(aw (af (by rw[zs,aX];exact aa hd.Uy E))).trans ?_
    rw[av λ hm=>I (qh.mp hm),zs,zs,i7]
   refine gE ?_
   refine qg (v:= .ref (Y.n+2)) aB (aE (jv pg · (.ref (Y.n+2)) 5) hd.hs) (w:= .int (v:Int)) aB ?_
   refine lN UC ?_
   refine(?_:wSs J pg d _ _ (E1 S g Y.n (.int (v:Int))) (p.set (Y.n+2) (.set (zs (xs++[v])))))
   have UD:Ext Y (p.set (Y.n+2) (.set (zs (xs++[v])))):=hd.ex.set (au _ 2) _
   have Rg:Ev J d (.slot (.sub (.var 1) (.var 6)) 2) (E1 S g Y.n (.int (v:Int))) (p.set (Y.n+2) (.set (zs (xs++[v])))) (.ref (j v)):=
    tL (Ev.sub (va:= .ref g) (vb:= .int (v:Int)) aB aB (tP ((UD.2 _ q.lt.2.1).trans hD) u)) ((UD.2 _ (q.lt.2.2 v u).1).trans (q.n v u)) rfl nofun
   have hb:(p.set (Y.n+2) (.set (zs (xs++[v])))).f (Y.n+1)= .list (R.reverse.map λ f=>V.ref f.2.1):=a8 (off (by decide)) hd.hb
   refine CF (a:=Y.n+1) (vs:=R.reverse.map λ f=> .ref f.2.1) (v:= .ref p.n) (σ':=(p.set (Y.n+2) (.set (zs (xs++[v])))).alloc (.xX (j v) 0)) aB hb (nC hb (xM hd.n4 (by decide))) (by rw[aX];exact aa Qi (by decide)) (λ K k=> ?_) ?_
   ·refine(?_:wE J pg d (.slot (.sub (.var 1) (.var 6)) 2) _ _ _)
    refine Ex Rg ?_
    refine(?_:opt ((p.set (Y.n+2) (.set (zs (xs++[v])))).f (j v)).fq _)
    exact(UD.2 _ (q.lt.2.2 v u).2).trans (q.b v u)▸k
   have my:(((p.set (Y.n+2) (.set (zs (xs++[v])))).alloc (.xX (j v) 0)).set (Y.n+1) (.list ((R.reverse.map λ f=>V.ref f.2.1)++[.ref p.n]))).f Y.n= .list (nums (R.reverse.map (·.1))):=a8 (off (a:=0) (by decide)) (nC (a8 (off (a:=0) (by decide)) hd.ha) (xM (c:=0) hd.n4 (by decide)))
   have y:(nums (R.reverse.map (·.1))).length<=1000:=by rw[nums,aX,aX];exact Qi
   have E:kv.length<=1000:=by have:=aE List.length z;rw[aX,zs,aX,aX]at this;exact this▸Qi
   refine C0 (a:=Y.n+3) (HC (v:= .ref Y.n) aB rfl (aE Fq my) (aa y (by decide))) aB aB (a8 (off (by decide)) (nC (a8 (off (by decide)) he) (xM hd.n4 (by decide)))) (aa E (by decide)) λ nM=> ?_
   refine(pa (tM XR)).symm▸?_
   refine dB (a:=Y.n) (v:= .int (v:Int)) aB (a8 (off (a:=0) (by decide)) my) (aa y (by decide)) aB ?_
   refine eO ?_
   have Wf:∀k∈keys,k∈ks\/k=U\/k∈xs++[v]:=λ k L=>(UA k L).imp id λ e=>e.imp id (gP _)
   have Wg:U∈xs++[v]:=We.elim (gP _) λ e=>e▸kc
   exact tN q CZ (hd.push u I z IX _) (dG (H4 u I)) ⟨(λ s hs=>nomatch hs),Uz⟩ (λ R' t v' σ' G hp N ie=>(k1 _ _ _ hp ⟨R',t,xs++[v],v',rfl,rfl,G,N,ie,Wf,.inl Wg⟩).1) (Ky (xs++[v]) Wf Wg)
 ·rintro B σ' ⟨r,xs,w,D,rfl,M,hr⟩
  exact h σ' M.ex ⟨r,M.od,M.no,λ k L=>((M.xm k).mp ((hr k L).resolve_left nofun)).resolve_left nofun⟩
theorem C1{e:ME}{K:Bool->Mem->Prop}{v:V}{q:Bool}(he:Ev J d e B Y v)(n:b6 Y v=some q)(k:K q Y):wTs J pg d [e] K B Y:=he _ (cX n (by induction q<;>exact k))
theorem Ev.values{o:ME}{i:Nat}(E:Ev J d o B Y (.ref i)):Ev J d (.values o) B Y (.kE i):=λ K k=>by
 refine(?_:wE J pg d o (λ v Y=>match v with| .ref i=>K (.kE i) Y|_=>False) B Y)
 exact E _ k
theorem bw.Og{X:Nat->Prop}{S D:Nat}{keys:aj}{A B:Nat->Nat}{np:Nat->Int}{T:Nat->aj}{C:Option (Nat×aj)}{po nf:Int}(h:bw X Y S D keys A B np T C po nf)(k:Option (Nat×aj))(c L:Int)(x:∀R l,k=some (R,l)->Y.f R= .list (nums l)/\(∀o∈keys,B o≠R)/\R<Y.n/\X R):bw X (Y.set S (.inst 260 [(5,.ref D),(6,V5 k),(7,.int c),(8,.int L)])) S D keys A B np T k c L:=by
 have H:=h.kinds
 obtain⟨s,⟨ep,d⟩,z,n,b,y,g,r,lt,p,a,w⟩:=h
 exact⟨Mem.aO _ _ _,⟨ep,a8 H.sd.symm d⟩,z,λ o E=>a8 (H.k o E).as (n o E),λ o E=>a8 (H.k o E).bs (b o E),y,g,λ R l e=>⟨a8 (other (x R l e).1 s nofun) (x R l e).1,(x R l e).2⟩,lt,p,a,w⟩
theorem bw.Rh{X:Nat->Prop}{S D:Nat}{keys:aj}{A B:Nat->Nat}{np:Nat->Int}{T:Nat->aj}{R:Nat}{l:aj}{po nf:Int}(h:bw X Y S D keys A B np T (some (R,l)) po nf)(C:aj):bw X (Y.set R (.list (nums C))) S D keys A B np T (some (R,C)) po nf:=by
 have x:=h.kinds.r R l rfl
 obtain⟨s,⟨ep,d⟩,z,n,b,H,L,r,lt,y,a,p⟩:=h
 exact⟨a8 x.1.symm s,⟨ep,a8 x.2.1.symm d⟩,z,λ o E=>a8 (x.2.2 o E).1 (n o E),λ o E=>a8 (x.2.2 o E).2 (b o E),H,L,λ q u e=>by obtain⟨rfl,rfl⟩:=Prod.mk.inj (aM e);exact⟨Mem.aO _ _ _,(r R l rfl).2⟩,lt,y,a,p⟩
noncomputable abbrev gb(keys:aj)(np:Nat->Int):aj:=keys.filter λ o=>np o==0
theorem BC(H:Hd J){Z:Nat->Mem->Prop}{X:Nat->Prop}{S a:Nat}{keys:aj}{A b:Nat->Nat}{np:Nat->Int}{T:Nat->aj}{po nf:Int}(s:bw X Y S a keys A b np T none po nf)(y:∀o∈keys,∀x∈T o,x∈keys)(hX:∀i,Y.n<=i->X i)(h:∀σ' R,bw X σ' S a keys A b np T (some (R,gb keys np)) po nf->gm X Y σ'->H6 keys T->Q .none σ')(c:∀σ' R,bw X σ' S a keys A b np T (some (R,gb keys np)) po nf->gm X Y σ'->Oe keys T->Z 178 σ'):sr J (d+2) (.glob cw) [.ref S] Q Z Y:=by
 refine fZ H _ ?_
 obtain⟨ep,j⟩:=s.d
 have z:=s.kl
 refine qa false (Ev.cmp (va:= .none) (vb:= .none) (gH aB s.s rfl rfl nofun) aB rfl) nofun (λ D=> ?_)
 refine eO ?_
 have M:∀ks:aj,ks.flatMap (λ o=>if np o==0 then[V.int (o:Int)]else[])=nums (gb ks np):=by
  intro ks
  induction ks with
  |nil=>rfl
  |cons k ks g=>
   rw[List.flatMap_cons,g]
   unfold gb
   rw[kZ]
   by_cases e:np k==0
   ·rw[aw e,aw e];rfl
   ·rw[av e,av e];rfl
 have hlen:(nums (gb keys np)).length<=1000:=by
  rw[bH]
  exact aa (jO (λ o=>np o==0) keys) z
 refine fG (i:=S) (C:=260) (as:=[(5,.ref a),(6,.none),(7,.int po),(8,.int nf)]) (v:= .ref Y.n) (σ':=Y.alloc (.list (nums (gb keys np)))) (λ K k=> ?_) aB (nC s.s (az s.lt.1)) rfl (by decide) (by decide:4<=100) ?_
 ·have G:Ev J (d+1) (.attr (.var 0) 5) [.ref S,.aF,.aF] Y (.ref a):=gH aB s.s rfl rfl nofun
  have hit:jw Y (.kE a)=some (false,keys.map (λ o=>V.ref (A o)),λ σ'=>σ'.f a= .dict (bC keys A) ep):=by
   refine(?_:(match Y.f a with| .dict bC ep=>some (false,bC.map (λ x:Int×V=>x.2),λ σ':Mem=>σ'.f a=O.dict bC ep)|_=>none)=_)
   rw[j]
   exact aE (λ l=>some (false,l,_)) fN
  refine oX G.values hit (gX (λ o=>V.ref (A o)) (λ o=>if np o==0 then[V.int (o:Int)]else[]) (λ σ'=>σ'=Y) (λ σ' e=>by exact e▸j) keys [] Y (λ o p m σ' e E=> ?_) rfl (by rw[k9,M];exact aa hlen (by decide)) λ σ' e=> ?_)
  ·subst e
   have E:=E _ rfl
   have w:=s.n o p
   refine C1 (B:=[.ref S,.ref (A o),.aF]) (Ev.cmp (va:= .int (np o)) (q:=np o==0) (tL (i:=A o) aB w rfl nofun) aB rfl) rfl ?_
   cases c:(np o==0)with
   |false=>rw[c]at E;exact E
   |true=>
    rw[c]at E
    exact Ex (v:= .int (o:Int)) (tL (i:=A o) aB w rfl nofun) E
  ·subst e
   rw[k9,M]
   exact⟨af (aa hlen (by decide)),k⟩
 have N:bw X (Y.alloc (.list (nums (gb keys np)))) S a keys A b np T none po nf:=s.keep (dC _) λ i hi D=>Mem.bD _ _ (az hi)
 have U:=N.Og (some (Y.n,gb keys np)) po nf (λ R l e=>by
  obtain⟨rfl,rfl⟩:=Prod.mk.inj (aM e)
  exact⟨Mem.a7 _ _,λ o p=>az (s.lt.2.2 o p).2,bF _,hX _ (ai _)⟩)
 have f2:gm X Y ((Y.alloc (.list (nums (gb keys np)))).set S (.inst 260 [(5,.ref a),(6,.ref Y.n),(7,.int po),(8,.int nf)])):=(gm.kh (.alloc _ _)).trans (.set s.nQ.1 _)
 refine gE ?_
 refine jL (v:= .ref S) aB (vK U.s (by decide) rfl) ?_
 have fin:∀{σ':Mem},Ext ((Y.alloc (.list (nums (gb keys np)))).set S (.inst 260 [(5,.ref a),(6,.ref Y.n),(7,.int po),(8,.int nf)])) σ'->bw X σ' S a keys A b np T (some (Y.n,gb keys np)) po nf/\gm X Y σ':=λ ex=>⟨U.keep ex.1 λ i hi D=>ex.2 i hi,f2.trans (.kh ex)⟩
 refine uD (d:=d) H U y (λ σ' ex ac=> ?_) λ σ' vs ex I u L=> ?_
 ·refine HA .none false aB rfl nofun (λ D=> ?_)
  exact h σ' Y.n (fin ex).1 (fin ex).2 ac
 ·have r:b6 σ' (.list vs)=some true:=by
   refine(?_:(if decide (vs.length<=1000000)then some (!vs.isEmpty)else none)=_)
   rw[aw (af (aa u (by decide)))]
   induction vs with
   |nil=>exact absurd rfl I
   |cons v vs=>rfl
  refine HA (.list vs) true aB r (λ D=> ?_) nofun
  exact gE ⟨rfl,⟨_,rfl⟩,rfl,c σ' Y.n (fin ex).1 (fin ex).2 L⟩
noncomputable def qO(np:Nat->Int)(l:aj)(v:Int):Nat->Int:=l.foldl (λ np o=>upd np o v) np
noncomputable def dN(x:(Nat->Int)×aj)(s:Nat):(Nat->Int)×aj:=(upd x.1 s (x.1 s-1),if x.1 s-1==0 then x.2++[s]else x.2)
noncomputable def kM(T:Nat->aj)(x:(Nat->Int)×aj)(o:Nat):(Nat->Int)×aj:=(T o).foldl dN (upd x.1 o (-2),x.2)
noncomputable def xN(T:Nat->aj):(Nat->Int)×aj->aj->Prop
 |_,[]=>True
 |x,o::os=>x.1 o= -1/\xN T (kM T x o) os
theorem Oh{R:Nat}{vs:ar}(h:Y.f R= .list vs)(N:vs.length<=100000):dY Y (.ty .tuple) [.ref R]=some (.tuple vs,Y):=by
 refine(?_:(match(Y.f R).fq with|some vs=>if short vs then some (V.tuple vs,Y)else none|none=>none)=_)
 exact h▸aw (af N)
theorem Oi{R:Nat}{vs:ar}(h:Y.f R= .list vs)(N:vs.length<=100000):dY Y (.bm .lp) [.ref R]=some (.none,Y.set R (.list [])):=by
 refine(?_:(match Y.f R with| .list vs=>if short vs then _ else none|_=>none)=_)
 exact h▸aw (af N)
theorem Ic{X:Nat->Prop}{S D R:Nat}{keys l:aj}{A a:Nat->Nat}{np:Nat->Int}{T:Nat->aj}{po nf:Int}(h:bw X Y S D keys A a np T (some (R,l)) po nf)(r:B[0]? =some (.ref S)):Ev J d (.attr (.var 0) 6) B Y (.ref R):=gH (HE r nofun) h.s rfl rfl nofun
theorem BD{a b r:List MS}{Q:Fl->ar->Mem->Prop}{X:Nat->Prop}{S c R:Nat}{keys l:aj}{A e:Nat->Nat}{np:Nat->Int}{T:Nat->aj}{po nf:Int}(h:bw X Y S c keys A e np T (some (R,l)) po nf)(q:B[0]? =some (.ref S))(k:wSs J pg d b (nx J d r Q) B Y):wSs J pg d (.dP (.cmp .Is (.attr (.var 0) 6) (.lit .none)) a b::r) Q B Y:=qa false (Ev.cmp (va:= .ref R) (vb:= .none) (Ic h q) aB rfl) nofun λ D=>k
inductive Wj(X:Nat->Prop)(Y:Mem)(S D R:Nat)(keys l:aj)(A a:Nat->Nat)(np:Nat->Int)(su:Nat->aj)(po nf:Int)(l':aj)(B:ar)(σ':Mem):Prop where
 |mk (kN:Nat->Int) (v3:V) (hr:B=[.ref S,.tuple (nums l),.ref D,v3]) (h:bw X σ' S D keys A a kN su (some (R,l)) po nf) (f:gm X Y σ') (n:σ'.n=Y.n) (e:qO kN l' (-1)=qO np l (-1)) (hk:∀o∈l',o∈keys):Wj X Y S D R keys l A a np su po nf l' B σ'
theorem xO(H:Hd J){X:Nat->Prop}{S c R:Nat}{keys l:aj}{A f:Nat->Nat}{np:Nat->Int}{T:Nat->aj}{po nf:Int}(q:bw X Y S c keys A f np T (some (R,l)) po nf)(L:l.length<=100000)(z:∀o∈l,o∈keys)(h:∀σ',bw X σ' S c keys A f (qO np l (-1)) T (some (R,[])) (po+l.length) nf->gm X Y σ'->σ'.n=Y.n->Q (.tuple (nums l)) σ'):aH J (d+1) (.glob du) [.ref S] [] [] Q Y:=by
 refine fC H _ ?_
 have p:(nums l).length<=100000:=by rw[bH];exact L
 refine BD q rfl (eO ?_)
 refine cH (v:= .tuple (nums l)) (ka (b:= .ty .tuple) (w:= .ref R) aB rfl (gD.one rfl (Ic q rfl)) (Oh (q.r R l rfl).1 p)) ?_
 refine cH (v:= .ref c) (gH aB q.s rfl rfl nofun) ?_
 refine lM (λ k:Nat=>V.int (k:Int)) (vi:= .tuple (nums l)) (l:=l) (g:=λ D=>True) aB rfl (Wj X Y S c R keys l A f np T po nf) ⟨np,.aF,rfl,q,.refl _ _,rfl,rfl,z⟩ (λ D D D D=>trivial) ?_ ?_
 ·rintro o y B σ' K ⟨M,t,rfl,h',I,N,U,G⟩ kk
  have E:=G o (.head _)
  obtain⟨ep,j⟩:=h'.d
  refine lP (i:=A o) (vs:=[.int (o:Int),.int (M o),.ref (f o)]) (v:= .int (-1)) aB (Ev.sub (va:= .ref c) (vb:= .int (o:Int)) aB aB (tP j E)) (h'.n o E) (by decide) ?_
  exact(kk _ _ ⟨upd M o (-1),_,rfl,h'.CV E (-1),I.trans (.set (h'.nQ.2.2 o E).1 _),N,U,λ x m=>G x (.tail _ m)⟩).1
 ·rintro B σ' ⟨M,t,rfl,h',I,N,U,G⟩
  have U:M=_:=U
  subst U
  refine gE (jL (Ic h' rfl) (aE (jv pg · (.ref R) 3) (h'.r R l rfl).1) ?_)
  refine dK (J:=J) (d:=d) rfl (Oi (h'.r R l rfl).1 p) ?_
  have u:=h'.Rh []
  refine HZ (i:=S) (C:=260) (as:=[(5,.ref c),(6,.ref R),(7,.int po),(8,.int nf)]) (a:= .int po) (b:= .int (l.length:Int)) (v:= .int (po+l.length)) aB u.s rfl (by decide) (by decide:4<=100) rfl nofun (HC (v:= .tuple (nums l)) aB rfl (aE some (bH l)) (aa L (by decide))) rfl ?_
  exact h _ (u.Og (some (R,[])) (po+l.length) nf (λ s y e=>by obtain⟨rfl,rfl⟩:=Prod.mk.inj (aM e);exact u.r R [] rfl)) ((I.trans (.set (q.r R l rfl).2.2.2 _)).trans (.set q.nQ.1 _)) N
theorem xP(H:Hd J){X:Nat->Prop}{S D R:Nat}{keys l:aj}{A B:Nat->Nat}{np:Nat->Int}{T:Nat->aj}{po nf:Int}(i:bw X Y S D keys A B np T (some (R,l)) po nf)(N:l.length<=100000)(h:Q (.bool (decide (nf<po)|| !l.isEmpty)) Y):aH J (d+1) (.glob dw) [.ref S] [] [] Q Y:=by
 refine fD H _ ?_
 refine BD i rfl (eO ?_)
 have U:Ev J d (.call (.ck 8) [.attr (.var 0) 6] [] []) [.ref S] Y (.bool (!l.isEmpty)):=ka (b:= .ty .bool) aB rfl (gD.one rfl (Ic i rfl)) (by
  refine(aE (Option.map λ b=>(V.bool b,Y)) (Br (i.r R l rfl).1 (by rw[bH];exact aa N (by decide)))).trans ?_
  induction l<;>rfl)
 refine Kj (v:= .bool (decide (nf<po)|| !l.isEmpty)) (λ K k=> ?_) h
 have key:wE J pg d (.cmp .Lt (.attr (.var 0) 8) (.attr (.var 0) 7)) (λ v Y=>opt (b6 Y v) λ q=>match q with
   |true=>K v Y
   |false=>wE J pg d (.call (.ck 8) [.attr (.var 0) 6] [] []) K [.ref S] Y) [.ref S] Y:=by
  refine Ex (v:= .bool (decide (nf<po))) (Ev.cmp (va:= .int nf) (vb:= .int po) (gH aB i.s rfl rfl nofun) (gH aB i.s rfl rfl nofun) rfl) ?_
  cases e:decide (nf<po)with
  |true=>rw[e]at k;exact k
  |false=>rw[e]at k;exact U _ k
 exact key
noncomputable def Oj:List MS:=[.assign [.var 7] (.sub (.var 2) (.var 6)),.iY (.var 7) 1 .Sub (.lit (.int 1)),.dP (.cmp .Eq (.slot (.var 7) 1) (.lit (.int 0))) [.expr (.aY (.attr (.var 0) 6) 0 [.var 6])] []]
theorem EJ(x:(Nat->Int)×aj)(s:Nat):(dN x s).2.length<=x.2.length+1:=by
 delta dN
 cases x.1 s-1==0
 ·exact dC _
 ·exact bN (cY _ _)
theorem EK(l:aj):∀x:(Nat->Int)×aj,(l.foldl dN x).2.length<=x.2.length+l.length:=by
 induction l with
 |nil=>exact λ x=>ai _
 |cons s l y=>exact λ x=>aa (y (dN x s)) (aa (eh (EJ x s) _) (bN (iQ _ 1 _)))
inductive Wk(X:Nat->Prop)(Y:Mem)(S D R:Nat)(keys:aj)(A a:Nat->Nat)(su:Nat->aj)(po nf:Int)(v1 v3 v4 v5:V)(fin:(Nat->Int)×aj)(l':aj)(B:ar)(σ':Mem):Prop where
 |mk (np:Nat->Int) (rd:aj) (v6 v7:V) (hr:B=[.ref S,v1,.ref D,v3,v4,v5,v6,v7]) (h:bw X σ' S D keys A a np su (some (R,rd)) po nf) (f:gm X Y σ') (n:σ'.n=Y.n) (e:l'.foldl dN (np,rd)=fin) (hk:∀s∈l',s∈keys) (hl:rd.length+l'.length<=100000):Wk X Y S D R keys A a su po nf v1 v3 v4 v5 fin l' B σ'
theorem EL{K:Fl->ar->Mem->Prop}{r:List MS}{X:Nat->Prop}{S c R o:Nat}{keys l:aj}{A f:Nat->Nat}{np:Nat->Int}{T:Nat->aj}{po nf:Int}{v1 t u G N:V}(q:bw X Y S c keys A f np T (some (R,l)) po nf)(E:o∈keys)(n:∀s∈T o,s∈keys)(j:l.length+(T o).length<=100000)(h:∀σ' G N,bw X σ' S c keys A f ((T o).foldl dN (np,l)).1 T (some (R,((T o).foldl dN (np,l)).2)) po nf->gm X Y σ'->σ'.n=Y.n->wSs J pg d r K [.ref S,v1,.ref c,t,.ref (A o),u,G,N] σ'):wSs J pg d (.eR [6] (.slot (.var 4) 2) Oj::r) K [.ref S,v1,.ref c,t,.ref (A o),u,G,N] Y:=by
 refine lM (λ k:Nat=>V.int (k:Int)) (vi:= .ref (f o)) (l:=T o) (tL (i:=A o) aB (q.n o E) rfl nofun) (aE (sv (f o)) (q.b o E)) (Wk X Y S c R keys A f T po nf v1 t (.ref (A o)) u ((T o).foldl dN (np,l))) ⟨np,l,_,_,rfl,q,.refl _ _,rfl,rfl,n,j⟩ ?_ ?_ ?_
 ·rintro C B σ' ⟨U,M,G,N,D,h',D⟩
  exact h'.b o E
 ·rintro s C B σ' K' ⟨U,M,G,N,rfl,h',y,H,I,g,w⟩ kk
  have L:=g s (.head _)
  have p:M.length+1+C.length<=100000:=aa (bN (iQ _ 1 _)) w
  obtain⟨ep,hD⟩:=h'.d
  refine cH (v:= .ref (A s)) (Ev.sub (va:= .ref c) (vb:= .int (s:Int)) aB aB (tP hD L)) ?_
  refine HY (a:= .int (U s)) (v:= .int (U s-1)) aB (h'.n s L) (by decide) rfl nofun (b:= .int 1) aB rfl ?_
  have z:=h'.CV L (U s-1)
  have f2:=y.trans (.set (h'.nQ.2.2 s L).1 (.node 163 [.int (s:Int),.int (U s-1),.ref (f s)]))
  have Q:C.foldl dN (dN (U,M) s)=(T o).foldl dN (np,l):=I
  have m:∀x∈C,x∈keys:=λ x hx=>g x (.tail _ hx)
  refine(?_:wSs J pg d _ K' [.ref S,v1,.ref c,t,.ref (A o),u,.int (s:Int),.ref (A s)] (σ'.set (A s) (.node 163 [.int (s:Int),.int (U s-1),.ref (f s)])))
  refine qa (U s-1==0) (Ev.cmp (va:= .int (U s-1)) (tL (i:=A s) (vs:=[.int (s:Int),.int (U s-1),.ref (f s)]) aB (Mem.aO _ _ _) rfl nofun) aB rfl) (λ e=> ?_) (λ e=> ?_)
  ·refine dB (a:=R) (v:= .int (s:Int)) (Ic z rfl) (z.r R M rfl).1 (by rw[bH];exact aa (aa (dC _) (au _ _)) p) aB (eO ?_)
   rw[jM]
   rw[show dN (U,M) s=(upd U s (U s-1),M++[s]) from aE (Prod.mk _) (aw e)]at Q
   exact(kk _ _ ⟨_,M++[s],_,_,rfl,z.Rh (M++[s]),f2.trans (.set (h'.r R M rfl).2.2.2 _),H,Q,m,by rw[cY];exact p⟩).1
  ·rw[show dN (U,M) s=(upd U s (U s-1),M) from aE (Prod.mk _) (av (by refine e.symm▸?_;nofun))]at Q
   exact eO (kk _ _ ⟨_,M,_,_,rfl,z,f2,H,Q,m,aa (eh (dC _) _) p⟩).1
 ·rintro B σ' ⟨U,M,G,N,rfl,h',y,H,I,g,w⟩
  have I:(U,M)=_:=I
  rw[<-I]at h
  exact h σ' G N h' y H
inductive Wl(X:Nat->Prop)(Y:Mem)(S D R:Nat)(keys nodes:aj)(A a:Nat->Nat)(su:Nat->aj)(po Ri:Int)(fin:(Nat->Int)×aj)(os:aj)(B:ar)(σ':Mem):Prop where
 |mk (np:Nat->Int) (rd:aj) (nf:Int) (v3 v4 v5 v6 v7:V) (hr:B=[.ref S,.tuple (nums nodes),.ref D,v3,v4,v5,v6,v7]) (h:bw X σ' S D keys A a np su (some (R,rd)) po nf) (f:gm X Y σ') (n:σ'.n=Y.n) (e:os.foldl (kM su) (np,rd)=fin) (ok:xN su (np,rd) os) (hk:∀o∈os,o∈keys) (hf:nf+os.length=Ri) (hl:rd.length+1000*os.length<=51000):Wl X Y S D R keys nodes A a su po Ri fin os B σ'
theorem Kz(H:Hd J){X:Nat->Prop}{S c R:Nat}{keys l nodes:aj}{A f:Nat->Nat}{np:Nat->Int}{T:Nat->aj}{po nf:Int}(q:bw X Y S c keys A f np T (some (R,l)) po nf)(hk:∀o∈nodes,o∈keys)(hs:∀o∈keys,∀s∈T o,s∈keys)(BU:∀o,(T o).length<=1000)(hl:l.length<=1000)(hn:nodes.length<=50)(Q9:xN T (np,l) nodes)(h:∀σ',bw X σ' S c keys A f (nodes.foldl (kM T) (np,l)).1 T (some (R,(nodes.foldl (kM T) (np,l)).2)) po (nf+nodes.length)->gm X Y σ'->σ'.n=Y.n->Q .none σ'):aH J (d+1) (.glob bp) (.ref S::nums nodes) [] [] Q Y:=by
 refine gW H _ _ (af (by rw[bH];exact aa hn (by decide))) ?_
 refine BD q rfl (eO ?_)
 refine cH (v:= .ref c) (gH aB q.s rfl rfl nofun) ?_
 refine lM (λ k:Nat=>V.int (k:Int)) (vi:= .tuple (nums nodes)) (l:=nodes) (g:=λ D=>True) aB rfl (Wl X Y S c R keys nodes A f T po (nf+nodes.length) (nodes.foldl (kM T) (np,l))) ⟨np,l,nf,_,_,_,_,_,rfl,q,.refl _ _,rfl,rfl,Q9,hk,rfl,fk hl (nS 1000 hn)⟩ (λ D D D D=>trivial) ?_ ?_
 ·rintro o os B σ' K ⟨U,G,L,v3,y,I,u,z,rfl,h',m,n,N,Wn,j,M,p⟩ kk
  have E:=j o (.head _)
  obtain⟨t,o2⟩:=Wn
  have t:U o= -1:=t
  have e2:os.foldl (kM T) (kM T (U,G) o)=nodes.foldl (kM T) (np,l):=N
  have p:G.length+1000+1000*os.length<=51000:=aa (bN (by rw[gp,ff 1000];rfl)) p
  have M:L+1+(os.length:Int)=nf+nodes.length:=(Int.add_assoc _ _ _).trans ((aE (L+·) (Int.add_comm _ _)).trans M)
  obtain⟨ep,hD⟩:=h'.d
  refine(?_:wSs J pg d _ K [.ref S,.tuple (nums nodes),.ref c,.int (o:Int),y,I,u,z] σ')
  have Ku:Ev J d (.aY (.var 2) 4 [.var 3]) [.ref S,.tuple (nums nodes),.ref c,.int (o:Int),y,I,u,z] σ' (.ref (A o)):=λ K k=>qg (v:= .ref c) aB (L6 hD) (w:= .int (o:Int)) aB (dK (J:=J) (d:=d) rfl (L5 hD) (by rw[kj,aw E];exact k))
  refine gE (Ku _ ?_)
  refine(?_:wSs J pg d _ K [.ref S,.tuple (nums nodes),.ref c,.int (o:Int),.ref (A o),I,u,z] σ')
  refine cH (v:= .int (U o)) (tL (i:=A o) aB (h'.n o E) rfl nofun) ?_
  refine qa false (Ev.cmp (va:= .int (U o)) (vb:= .int (-1)) aB aB (by refine t.symm▸?_;rfl)) nofun (λ D=>eO ?_)
  refine lP (i:=A o) (vs:=[.int (o:Int),.int (U o),.ref (f o)]) (v:= .int (-2)) aB aB (h'.n o E) (by decide) ?_
  have h2:=h'.CV E (-2)
  have f2:=m.trans (.set (h'.nQ.2.2 o E).1 (.node 163 [.int (o:Int),.int (-2),.ref (f o)]))
  refine EL (o:=o) h2 E (hs o E) (aa (gL (BU o) _) (aa (au _ _) (aa p (by decide)))) λ aS XT Yz r f3 n3=> ?_
  refine HZ (i:=S) (C:=260) (as:=[(5,.ref c),(6,.ref R),(7,.int po),(8,.int L)]) (a:= .int L) (b:= .int 1) (v:= .int (L+1)) aB r.s rfl (by decide) (by decide:4<=100) rfl nofun aB rfl ?_
  have h4:=r.Og (some (R,((T o).foldl dN (upd U o (-2),G)).2)) po (L+1) (λ R' l' e=>by obtain⟨rfl,rfl⟩:=Prod.mk.inj (aM e);exact r.r R _ rfl)
  exact(kk _ _ ⟨_,_,L+1,_,_,_,_,_,rfl,h4,(f2.trans f3).trans (.set q.nQ.1 _),n3.trans n,e2,o2,λ x hx=>j x (.tail _ hx),M,aa (eh (aa (EK (T o) (upd U o (-2),G)) (gL (BU o) _)) _) p⟩).1
 ·rintro B σ' ⟨U,G,L,v3,y,I,u,z,rfl,h',m,n,N,Wn,j,M,p⟩
  have N:(U,G)=_:=N
  have M:L=nf+nodes.length:=(Int.add_zero _).symm.trans M
  subst M
  rw[<-N]at h
  exact h σ' h' m n
theorem uE(H:Hd J)(h:∀σ',Ext Y σ'->σ'.n=Y.n+2->bw (λ i=>Y.n<=i) σ' Y.n (Y.n+1) [] (λ D=>0) (λ D=>0) (λ D=>0) (λ D=>[]) none 0 0->Q (.ref Y.n) σ'):aH J (d+2) (.glob 260) [] [] [] Q Y:=by
 obtain⟨P,q⟩:=H.hK
 refine tj H.ok (.inst 260 []) (.inl rfl) (by refine q.symm▸?_;kernel_rfl) (fI:=eI) (by refine q.symm▸?_;kernel_rfl) (by refine q.symm▸?_;kernel_rfl) ?_
 refine gV H _ ?_
 have z:Y.n≠Y.n+1:=(qo _).symm
 have le:∀{n:Nat},n<=4->n<=100:=λ h=>aa h (by decide)
 refine fG (i:=Y.n) (C:=260) (as:=[]) (v:= .ref (Y.n+1)) (σ':=(Y.alloc (.inst 260 [])).alloc (.dict [] 0)) aB aB (nC (Mem.a7 _ _) z) rfl (by decide) (dF _) ?_
 refine fG (i:=Y.n) (C:=260) (as:=[(5,.ref (Y.n+1))]) (v:= .none) aB aB (Mem.aO _ _ _) rfl (by decide) (le (n:=1) (by decide)) ?_
 refine fG (i:=Y.n) (C:=260) (as:=[(5,.ref (Y.n+1)),(6,.none)]) (v:= .int 0) aB aB (Mem.aO _ _ _) rfl (by decide) (le (n:=2) (by decide)) ?_
 refine fG (i:=Y.n) (C:=260) (as:=[(5,.ref (Y.n+1)),(6,.none),(7,.int 0)]) (v:= .int 0) aB aB (Mem.aO _ _ _) rfl (by decide) (le (n:=3) (by decide)) ?_
 refine qa false (Ev.cmp (va:= .none) (vb:= .none) aB aB rfl) nofun (λ D=> ?_)
 refine⟨rfl,h _ ⟨au Y.n 2,λ i hi=> ?_⟩ rfl ?_⟩
 ·have n1:i≠Y.n:=az hi
  exact a8 n1 (a8 n1 (a8 n1 (a8 n1 (nC (Mem.bD _ _ n1) (az (gO hi))))))
 ·exact⟨Mem.aO _ _ _,⟨0,a8 z.symm (a8 z.symm (a8 z.symm (a8 z.symm (Mem.a7 _ _))))⟩,.nil,λ o h=>(nomatch h),λ o h=>(nomatch h),λ o h=>(nomatch h),λ o h=>(nomatch h),λ R l e=>(nomatch e),⟨uJ (k:=2) (by decide),bF _,λ o h=>(nomatch h)⟩,⟨ai _,dC _,λ o h=>(nomatch h)⟩,λ o D=>⟨rfl,rfl⟩,dF _⟩
theorem bw.XU{X:Nat->Prop}{S D:Nat}{keys:aj}{A B:Nat->Nat}{np:Nat->Int}{T:Nat->aj}{H:Option (Nat×aj)}{po nf:Int}(h:bw X Y S D keys A B np T H po nf):bw (λ i=>X i/\i<Y.n) Y S D keys A B np T H po nf:=⟨h.s,h.d,h.nd,h.n,h.b,h.iA,h.iB,λ R l e=>let⟨r1,r2,r3,G⟩:=h.r R l e;⟨r1,r2,r3,G,r3⟩,h.lt,⟨⟨h.nQ.1,h.lt.1⟩,⟨h.nQ.2.1,h.lt.2.1⟩,λ o E=>⟨⟨(h.nQ.2.2 o E).1,(h.lt.2.2 o E).1⟩,⟨(h.nQ.2.2 o E).2,(h.lt.2.2 o E).2⟩⟩⟩,h.df,h.kl⟩
theorem Om{o a:ME}{m fa:Nat}{K:eY}{i C:Nat}{as:List (Nat×V)}{vs:ar}(E:Ev J d o B Y (.ref i))(hi:Y.f i= .inst C as)(z:pg.insts.contains C=true)(hm:pg.aY C m=some fa)(y:Ev J d a B Y (.tuple vs))(N:vs.length<=100000)(h:gB J d (.glob fa) (.ref i::vs) [] [] K Y):wE J pg d (.mP o m [.star a]) K B Y:=E _ (by
 refine(?_:(match Y.f i with| .inst C _=>_|_=>False))
 refine hi.symm▸?_
 refine⟨z,cX hm ?_⟩
 refine(?_:wE J pg d a _ B Y)
 refine Ex y (cX (aw (af N)) ?_)
 refine(?_:gB J d (.glob fa) (.ref i::(vs++[])) [] [] K Y)
 rw[d1]
 exact h)
theorem Ord.sub{N:Nat->aj}:∀{q:aj},Ord N q->∀c∈q,∀x∈N c,x∈q
 |_::_,⟨M,u⟩,c,C,x,I=>(bg.mp C).elim (λ e=> .tail _ (M x (e▸I))) λ C=> .tail _ (u.sub c C x I)
theorem zP{T:Nat->aj}{U:Nat->Prop}:∀{f:aj},Ord T f->f.Nodup->(∀c,U c->c∈f/\∃x,U x/\c∈T x)->∀c,¬U c
 |[],_,_,h,c,C=>nomatch(h c C).1
 |v::q,⟨M,u⟩,w,h,c,C=>by
  have w:=fh.mp w
  have n:¬U v:=λ A=>by
   obtain⟨D,x,I,l⟩:=h v A
   rcases bg.mp (h x I).1 with e|e
   ·exact w.1 (M v (e▸l))
   ·exact w.1 (u.sub x e v l)
  exact zP u w.2 (λ c C=>⟨(bg.mp (h c C).1).resolve_left (λ e=>n (e▸C)),(h c C).2⟩) c C
theorem xQ{N:Nat->aj}{U:aj}(g:∀c∈U,∃x∈U,x∈N c):∀{q:aj},Ord N q->∀c∈q,c∉U
 |v::q,⟨M,u⟩,c,C=>(bg.mp C).elim (λ e A=>by
   obtain⟨x,I,d⟩:=g c A
   exact xQ g u x (M x (e▸d)) I) λ C=>xQ g u c C
noncomputable def kP(O l:aj):Nat:=l.countP λ n=> !decide (n∈O)
theorem tQ(o:Nat)(O:aj)(E:o∉O)(l:aj):kP O l=kP (o::O) l+l.count o:=by
 induction l with
 |nil=>rfl
 |cons n l y=>
  unfold kP at y⊢
  rw[List.countP_cons,List.countP_cons,List.count_cons,y]
  by_cases e:n=o
  ·rw[e,cg E,af (show o∈o::O from .head _),aw (hZ o)]
   exact gp _ _ _
  ·rw[av (by rw[fS e];nofun:¬(n==o)=true),rM (p:=n∈o::O) (q:=n∈O) ⟨λ h=>(bg.mp h).resolve_left e,.tail _⟩]
   exact iQ _ _ _
theorem iJ{O l:aj}:kP O l=0↔∀n∈l,n∈O:=by
 unfold kP
 rw[List.countP_eq_zero]
 exact⟨λ h n w=>uM λ hm=>h n w (by rw[cg hm];rfl),λ h n w=>by rw[af (h n w)];nofun⟩
theorem vN(l:aj):kP [] l=l.length:=by
 unfold kP
 rw[List.countP_eq_length]
 exact λ n D=>by rw[cg nofun];rfl
structure L8(l:aj)(np kN:Nat->Int)(rd pq:aj):Prop where
 e:∀s,kN s=np s-(l.count s:Int)
 n:pq.Nodup
 m:∀s,s∈pq↔s∈rd\/(s∈l/\np s=(l.count s:Int))
theorem BE(l:aj):∀(np:Nat->Int)(H:aj),(∀s∈l,(l.count s:Int)<=np s)->H.Nodup->(∀s∈l,s∉H)->L8 l np (l.foldl dN (np,H)).1 H (l.foldl dN (np,H)).2:=by
 induction l with
 |nil=>exact λ np H D w D=>⟨λ s=>(Int.sub_zero _).symm,w,λ s=>⟨.inl,λ e=>e.elim id λ e=>nomatch e.1⟩⟩
 |cons a l y=>
  intro np H C w b
  have cs:((a::l).count a:Int)=(l.count a:Int)+1:=by rw[List.count_cons_self];rfl
  have i:∀{s:Nat},s≠a->(a::l).count s=l.count s:=λ h=>List.count_cons_of_ne (Ne.symm h)
  have d:=C a (.head _)
  rw[cs]at d
  have T:∀s,upd np a (np a-1) s-(l.count s:Int)=np s-((a::l).count s:Int):=λ s=>by
   by_cases e:s=a
   ·rw[e,bo,cs,Int.sub_sub,Int.add_comm]
   ·rw[bT _ _ e,i e]
  have Q:∀s∈l,(l.count s:Int)<=upd np a (np a-1) s:=λ s L=>by
   by_cases e:s=a
   ·rw[e,bo];exact Int.le_sub_one_iff.mpr (Int.lt_of_lt_of_le (Int.lt_succ _) d)
   ·have:=C s (.tail _ L)
    rw[i e]at this
    exact bT _ _ e▸this
  refine(?_:L8 (a::l) np (l.foldl dN (dN (np,H) a)).1 H (l.foldl dN (dN (np,H) a)).2)
  by_cases z:np a=1
  ·have E:(np a-1==0)=true:=by rw[z];rfl
   have N:a∉l:=λ hm=>by
    have M:0<l.count a:=jP.mpr hm
    rw[z]at d
    exact absurd (gq.mp (show((l.count a+1:Nat):Int)<=(1:Nat) from d)) (iR.mpr (Nat.succ_lt_succ M))
   rw[show dN (np,H) a=(upd np a (np a-1),H++[a]) from aE (Prod.mk _) (aw E)]
   obtain⟨e,n,m⟩:=y (upd np a (np a-1)) (H++[a]) Q (qd w λ x I e=>b a (.head _) (e▸I)) λ s L hm=>dp hm (b s (.tail _ L)) λ e=>N (e▸L)
   refine⟨λ s=>(e s).trans (T s),n,λ s=>(m s).trans ⟨λ h=> ?_,λ h=> ?_⟩⟩
   ·rcases h with h|⟨M,u⟩
    ·exact dp h .inl λ e=> .inr ⟨e▸.head _,by rw[e,cs,i8.mpr N];exact z⟩
    ·have e:s≠a:=λ e=>N (e▸M)
     rw[bT _ _ e]at u
     exact .inr ⟨.tail _ M,u.trans (aE Int.ofNat (i e).symm)⟩
   ·rcases h with h|⟨M,u⟩
    ·exact .inl (gP _ h)
    ·by_cases e:s=a
     ·exact .inl (e▸kc)
     ·rw[i e]at u
      exact .inr ⟨(bg.mp M).resolve_left e,by exact bT _ _ e▸u⟩
  ·have E:¬(np a-1==0)=true:=λ h=>z (by
    have:=bh h
    rw[<-Int.sub_add_cancel (np a) 1,this]
    rfl)
   rw[show dN (np,H) a=(upd np a (np a-1),H) from aE (Prod.mk _) (av E)]
   obtain⟨e,n,m⟩:=y (upd np a (np a-1)) H Q w λ s L=>b s (.tail _ L)
   have key:∀s,upd np a (np a-1) s=(l.count s:Int)↔np s=((a::l).count s:Int):=λ s=>by
    rw[<-Int.sub_eq_zero,T s,Int.sub_eq_zero]
   refine⟨λ s=>(e s).trans (T s),n,λ s=>(m s).trans (or_congr Iff.rfl ⟨λ h=>⟨.tail _ h.1,(key s).mp h.2⟩,λ h=>⟨?_,(key s).mpr h.2⟩⟩)⟩
   rcases bg.mp h.1 with e|e
   ·refine uM λ hm=>z ?_
    have u:=h.2
    rw[e,cs]at u
    rw[e]at hm
    rw[i8.mpr hm]at u
    exact u
   ·exact e
structure KI(N:Nat->aj)(keys O G:aj)(np:Nat->Int)(rd:aj):Prop where
 od:Ord N O
 nd:O.Nodup
 ok:∀c∈O,c∈keys
 g:∀c∈G,c∈keys/\c∉O/\np c= -1/\∀n∈N c,n∈O
 gn:G.Nodup
 np:∀c∈keys,c∉O->c∉G->np c=(kP O (N c):Int)
 rn:rd.Nodup
 rm:∀c,c∈rd↔c∈keys/\c∉O/\c∉G/\kP O (N c)=0
theorem KI.done{N T:Nat->aj}{keys O G:aj}{o:Nat}{np:Nat->Int}{C:aj}(h:KI N keys O (o::G) np C)(p:∀x s,(T x).count s=if s∈keys then(N s).count x else 0):KI N keys (o::O) G (kM T (np,C) o).1 (kM T (np,C) o).2:=by
 obtain⟨Q,M,t,q⟩:=h.g o (.head _)
 have j:=fh.mp h.gn
 have S:∀s∈T o,s∈keys/\o∈N s/\(T o).count s=(N s).count o/\s∉O/\s∉o::G:=λ s L=>by
  have g:=jP.mpr L
  have u:=p o s
  by_cases H:s∈keys
  ·rw[aw H]at u
   rw[u]at g
   have hm:=jP.mp g
   exact⟨H,hm,u,λ E=>M (h.od.sub s E o hm),λ y=>M ((h.g s y).2.2.2 o hm)⟩
  ·rw[av H]at u
   rw[u]at g
   exact absurd g (d0 0)
 have v:∀s∈T o,upd np o (-2) s=(kP (o::O) (N s):Int)+((T o).count s:Int):=λ s L=>by
  obtain⟨a,b,c,d,e⟩:=S s L
  rw[bT _ _ λ U:s=o=>e (U▸.head _),h.np s a d e,tQ o O M,c,Int.natCast_add]
 obtain⟨e,n,m⟩:=BE (T o) (upd np o (-2)) C (λ s L=>by exact v s L▸Int.le_add_of_nonneg_left (dE _)) h.rn λ s L hm=>by
  obtain⟨a,b,c,d,e⟩:=S s L
  exact M (iJ.mp ((h.rm s).mp hm).2.2.2 o b)
 have same:∀c∈keys,c∉T o->kP (o::O) (N c)=kP O (N c):=λ c H L=>by
  have u:=p o c
  rw[aw H,i8.mpr L]at u
  rw[tQ o O M,<-u,Nat.add_zero]
 refine(?_:KI N keys (o::O) G ((T o).foldl dN (upd np o (-2),C)).1 ((T o).foldl dN (upd np o (-2),C)).2)
 refine⟨⟨q,h.od⟩,fh.mpr ⟨M,h.nd⟩,dy.mpr ⟨Q,h.ok⟩,λ c y=> ?_,j.2,λ c H E y=> ?_,n,λ c=>(m c).trans ⟨λ r=> ?_,λ r=> ?_⟩⟩
 ·obtain⟨a,b,I,d⟩:=h.g c (.tail _ y)
  have z:c≠o:=λ U=>j.1 (U▸y)
  refine⟨a,λ hm=>(bg.mp hm).elim z b,?_,λ n w=> .tail _ (d n w)⟩
  rw[e c,bT _ _ z,i8.mpr λ L=>(S c L).2.2.2.2 (.tail _ y),I]
  rfl
 ·have z:c≠o:=λ U=>E (U▸.head _)
  rw[e c]
  by_cases L:c∈T o
  ·rw[v c L,Int.add_sub_cancel]
  ·rw[bT _ _ z,i8.mpr L,same c H L,h.np c H (λ hm=>E (.tail _ hm)) λ hm=>(bg.mp hm).elim z y]
   exact Int.sub_zero _
 ·rcases r with r|⟨r1,r2⟩
  ·obtain⟨a,b,I,d⟩:=(h.rm c).mp r
   refine⟨a,λ hm=>(bg.mp hm).elim (λ U=>I (U▸.head _)) b,λ hm=>I (.tail _ hm),iJ.mpr λ n w=> .tail _ (iJ.mp d n w)⟩
  ·obtain⟨a,b,I,d,f⟩:=S c r1
   refine⟨a,λ hm=>(bg.mp hm).elim (λ U=>f (U▸.head _)) d,λ hm=>f (.tail _ hm),?_⟩
   exact Nat.add_eq_right.mp (Int.ofNat.inj ((r2.symm.trans (v c r1)).trans (Int.natCast_add _ _).symm)).symm
 ·obtain⟨a,b,I,d⟩:=r
  by_cases L:c∈T o
  ·refine .inr ⟨L,?_⟩
   rw[v c L,d]
   exact Int.zero_add _
  ·rw[same c a L]at d
   exact .inl ((h.rm c).mpr ⟨a,λ hm=>b (.tail _ hm),λ hm=>(bg.mp hm).elim (λ U=>b (U▸.head _)) I,d⟩)
theorem KI.round{N T:Nat->aj}{keys:aj}(C:∀x s,(T x).count s=if s∈keys then(N s).count x else 0):∀{G O:aj}{np:Nat->Int}{H:aj},KI N keys O G np H->KI N keys (G.reverse++O) [] (G.foldl (kM T) (np,H)).1 (G.foldl (kM T) (np,H)).2/\xN T (np,H) G
 |[],_,_,_,h=>⟨h,trivial⟩
 |o::G,O,np,H,h=>by
  obtain⟨a,b⟩:=(h.done C).round C
  refine⟨?_,(h.g o (.head _)).2.2.1,b⟩
  rw[mG,cj]
  exact a
theorem zQ{l:aj}{v:Int}:∀{np:Nat->Int}{c:Nat},(c∈l->qO np l v c=v)/\(c∉l->qO np l v c=np c):=by
 induction l with
 |nil=>exact λ{np c}=>⟨nofun,λ D=>rfl⟩
 |cons a l y=>
  intro np c
  refine(?_:(c∈a::l->qO (upd np a v) l v c=v)/\(c∉a::l->qO (upd np a v) l v c=np c))
  refine⟨λ h=> ?_,λ h=> ?_⟩
  ·by_cases N:c∈l
   ·exact y.1 N
   ·rw[y.2 N,(bg.mp h).resolve_right N,bo]
  ·rw[y.2 λ hm=>h (.tail _ hm),bT _ _ λ e:c=a=>h (e▸.head _)]
theorem KI.out{N:Nat->aj}{keys O:aj}{np:Nat->Int}{H:aj}(h:KI N keys O [] np H):KI N keys O H (qO np H (-1)) []:=⟨h.od,h.nd,h.ok,λ c C=>let x:=(h.rm c).mp C;⟨x.1,x.2.1,zQ.1 C,iJ.mp x.2.2.2⟩,h.rn,λ c L g y=>(zQ.2 y).trans (h.np c L g nofun),.nil,λ c=>⟨nofun,λ x=>absurd ((h.rm c).mpr ⟨x.1,x.2.1,nofun,x.2.2.2⟩) x.2.2.1⟩⟩
theorem KI.init{N:Nat->aj}{keys:aj}{np:Nat->Int}(H:keys.Nodup)(w:∀c∈keys,np c=((N c).length:Int)):KI N keys [] [] np (keys.filter λ o=>np o==0):=⟨trivial,.nil,nofun,nofun,.nil,λ c C D D=>(w c C).trans (aE Int.ofNat (vN _).symm),H.filter _,λ c=>by
  rw[jN,vN]
  exact⟨λ x=>⟨x.1,nofun,nofun,Int.ofNat.inj ((w c x.1).symm.trans (bh x.2))⟩,λ x=>⟨x.1,dD.mpr ((w c x.1).trans (aE Int.ofNat x.2.2.2))⟩⟩⟩
theorem KI.rest{N:Nat->aj}{keys O:aj}{np:Nat->Int}(h:KI N keys O [] np []):∀c∈keys,c∉O->∃x∈N c,x∉O:=λ c H g=>uM λ hm=>nomatch(h.rm c).mpr ⟨H,g,nofun,iJ.mpr λ n w=>uM λ i=>hm ⟨n,w,i⟩⟩
theorem KI.UE{N T:Nat->aj}{keys O:aj}{np:Nat->Int}(h:KI N keys O [] np [])(C:∀x s,(T x).count s=if s∈keys then(N s).count x else 0)(e:∀c∈keys,∀x∈N c,x∈keys)(a:H6 keys T):∀c∈keys,c∈O:=by
 obtain⟨f,b1,b2,v⟩:=a
 refine λ c H=>uM λ g=>zP (U:=λ c=>c∈keys/\c∉O) b1 b2 (λ c l=>⟨v c l.1,?_⟩) c ⟨H,g⟩
 obtain⟨x,I,p⟩:=h.rest c l.1 l.2
 refine⟨x,⟨e c l.1 x I,p⟩,jP.mp ?_⟩
 rw[C x c,aw l.1]
 exact jP.mpr I
theorem KI.Ux{N T:Nat->aj}{keys O:aj}{np:Nat->Int}(h:KI N keys O [] np [])(C:∀x s,(T x).count s=if s∈keys then(N s).count x else 0)(a:Oe keys T):¬∀c∈keys,c∈O:=by
 obtain⟨U,m,z⟩:=a
 intro E
 induction U with
 |nil=>exact m rfl
 |cons c U=>
 refine xQ (N:=N) (U:=c::U) (λ c l=> ?_) h.od c (E c (z c (.head _)).1) (.head _)
 obtain⟨H,x,I,d⟩:=z c l
 have M:=jP.mpr d
 rw[C x c,aw H]at M
 exact⟨x,I,jP.mp M⟩
noncomputable def gZ(n:Nat):aj:=[n/2^16,n/2^8%2^8,n%2^8]
noncomputable def dq(n:Nat):aj:=[n/2^18,n/2^12%2^6,n/2^6%2^6,n%2^6]
noncomputable def xr(a b:aj):aj:=List.zipWith (λ x y=>x^^^y) a b
theorem Ie(a b:Nat):xr (gZ a) (gZ b)=gZ (a^^^b):=by
 unfold gZ
 rw[Nat.xor_div_two_pow,Nat.xor_div_two_pow,Nat.xor_mod_two_pow,Nat.xor_mod_two_pow]
 rfl
theorem Ig(a b:Nat):xr (dq a) (dq b)=dq (a^^^b):=by
 unfold dq
 rw[Nat.xor_div_two_pow,Nat.xor_div_two_pow,Nat.xor_div_two_pow,Nat.xor_mod_two_pow,Nat.xor_mod_two_pow,Nat.xor_mod_two_pow]
 rfl
theorem pd{n:Nat}(h:n<2^24):∀b∈gZ n,b<256:=dy.mpr ⟨iI (m:=2^16) (n:=256) h,dy.mpr ⟨eA _ (by decide),dy.mpr ⟨eA _ (by decide),nofun⟩⟩⟩
theorem KA{n:Nat}(h:n<2^24):∀b∈dq n,b<64:=dy.mpr ⟨iI (m:=2^18) (n:=64) h,dy.mpr ⟨eA _ (by decide),dy.mpr ⟨eA _ (by decide),dy.mpr ⟨eA _ (by decide),nofun⟩⟩⟩⟩
theorem cut(n k a b:Nat):n%(a*b)=n/a%b*a+n%a:=by rw[Nat.mod_mul,ff,Nat.mul_comm]
noncomputable def tx(m1 m2 n:Nat):aj:=enc m1 m2 (gZ n)
theorem C2(m1 m2:Nat){n:Nat}(h:n<2^24):tx m1 m2 n=(dq n).map λ k=>sw m1 m2 (bK k):=by
 have G:xx (gZ n)=jk (gZ n):=LY (pd h) [] 0
 have s:n/2^16/4=n/2^18:=pw n (2^16) 4
 have l:n/2^16%4*16+n/2^8%2^8/16=n/2^12%2^6:=by
  rw[show n/2^16=n/2^12/16 from(pw n (2^12) 16).symm,show(2^8:Nat)=16*16 from rfl,Nat.mod_mul_right_div_self,show n/(16*16)/16=n/2^12 from pw n (16*16) 16]
  exact(cut (n/2^12) 0 16 4).symm
 have C:n/2^8%2^8%16*4+n%2^8/64=n/2^6%2^6:=by
  rw[Nat.mod_mod_of_dvd _ (show 16∣2^8 from⟨16,rfl⟩),show n/2^8=n/2^6/4 from(pw n (2^6) 4).symm,show(2^8:Nat)=2^6*4 from rfl,show(64:Nat)=2^6 from rfl,Nat.mod_mul_right_div_self]
  exact(cut (n/2^6) 0 4 16).symm
 have e:n%2^8%64=n%2^6:=Nat.mod_mod_of_dvd n (show 2^6∣2^8 from⟨4,rfl⟩)
 have j:jk (gZ n)=(dq n).map bK:=by
  unfold gZ dq
  rw[CM,s,l,C,e]
  rfl
 unfold tx enc
 rw[G,j,fN]
 rfl
theorem Ih(m1 m2:Nat){n:Nat}(h:n<2^24):(tx m1 m2 n).length=4:=by rw[C2 m1 m2 h];rfl
noncomputable def EM(a b c e:Nat):Nat:=((a*64+b)*64+c)*64+e
theorem KC{a b c e:Nat}(z:a<64)(U:b<64)(C:c<64)(he:e<64):EM a b c e<2^24:=LX (n:=2^18) (LX (n:=2^12) (LX (n:=64) z U) C) he
theorem EN{a b c e:Nat}(U:b<64)(C:c<64)(he:e<64):dq (EM a b c e)=[a,b,c,e]:=by
 have M:EM a b c e/2^6=(a*64+b)*64+c:=EC 64 he
 have u:EM a b c e/2^12=a*64+b:=by rw[show(2^12:Nat)=2^6*2^6 from rfl,<-pw,M];exact EC 64 C
 have r:EM a b c e/2^18=a:=by rw[show(2^18:Nat)=2^12*2^6 from rfl,<-pw,u];exact EC 64 U
 unfold dq
 rw[M,u,r]
 exact congr (aE List.cons rfl) (congr (aE List.cons (ED 64 U)) (congr (aE List.cons (ED 64 C)) (aE (λ x=>[x]) (ED 64 he))))
noncomputable def xs(l:aj):Nat:=l.foldr (λ x y=>x^^^y) 0
theorem KD{a b:aj}(h:a.Perm b):xs a=xs b:=by
 induction h with
 |nil=>rfl
 |cons x _ g=>exact aE (x^^^·) g
 |swap x y l=>
  refine(?_:y^^^(x^^^xs l)=x^^^(y^^^xs l))
  rw[<-Nat.xor_assoc,Nat.xor_comm y,Nat.xor_assoc]
 |trans _ _ i j=>exact i.trans j
theorem Rk{k:Nat}{l:aj}(h:∀x∈l,x<2^k):xs l<2^k:=by
 induction l with
 |nil=>exact Nat.two_pow_pos k
 |cons x l g=>exact Nat.xor_lt_two_pow (h x (.head _)) (g λ y j=>h y (.tail _ j))
theorem zR(a:Nat):∀b:Nat,(a^^^b)+2*(a&&&b)=a+b:=by
 induction a using Nat.strongRecOn with
 |_ a y=>
  intro b
  by_cases h:a=0
  ·rw[h,Nat.zero_xor,Nat.zero_and,gM];rfl
  ·have i:=y (a/2) (Nat.div_lt_self (Nat.pos_of_ne_zero h) (by decide)) (b/2)
   have w:(a^^^b)/2=a/2^^^b/2:=Nat.xor_div_two
   have x:(a^^^b)%2^1=a%2^1^^^b%2^1:=Nat.xor_mod_two_pow
   have g:(a&&&b)/2=a/2&&&b/2:=Nat.and_div_two
   have c:(a&&&b)%2^1=a%2^1&&&b%2^1:=Nat.and_mod_two_pow
   have z:∀p q:Fin 2,(p.val^^^q.val)+2*(p.val&&&q.val)=p.val+q.val:=by decide
   have z:=z ⟨a%2^1,eA _ (by decide)⟩ ⟨b%2^1,eA _ (by decide)⟩
   dsimp only at z
   have e:∀n:Nat,n=2*(n/2)+n%2^1:=λ n=>(Nat.div_add_mod n (2^1)).symm
   have k:a^^^b=2*(a/2^^^b/2)+(a%2^1^^^b%2^1):=(e _).trans (w▸x▸rfl)
   have l:a&&&b=2*(a/2&&&b/2)+(a%2^1&&&b%2^1):=(e _).trans (g▸c▸rfl)
   have C:a+b=(2*(a/2)+a%2^1)+(2*(b/2)+b%2^1):=congr (aE _ (e a)) (e b)
   rw[k,l,C,Nat.add_add_add_comm,<-Nat.mul_add,<-i,<-z,Nat.mul_add,Nat.mul_add,Nat.add_add_add_comm]
theorem Ii(a b:Nat):Builtin.bitXor (a:Int) (b:Int)=((a^^^b:Nat):Int):=by
 have h:Builtin.bitAnd (a:Int) (b:Int)=((a&&&b:Nat):Int):=by
  delta Builtin.bitAnd
  rw[af (dE a),af (dE b)]
  rfl
 have e:(a:Int)+(b:Int)=((a^^^b:Nat):Int)+2*((a&&&b:Nat):Int):=aE Int.ofNat (zR a b).symm
 rw[bitXor_and,h,e,Int.add_sub_cancel]
theorem L9{a b:Nat}:mn Y .BitXor (.int (a:Int)) (.int (b:Int))=some (.int ((a^^^b:Nat):Int)):=aE (λ i=>some (V.int i)) (Ii a b)
theorem qi{elt w m:ME}{i j k:Nat}{xs ys:aj}(f:Nat->Nat->Nat)(z:Ev J d w B Y (.list (nums xs)))(U:∀K:eY,(∀σ' v,Ext Y σ'->(v= .list (nums ys)\/v= .bytes ys)->K v σ')->wE J pg d m K B Y)(he:∀x∈xs,∀(y:Nat) σ',Ev J d elt ((B.set i (.int (x:Int))).set j (.int (y:Int))) σ' (.int ((f x y:Nat):Int)))(N:xs.length<=1000)(g:∀σ',Ext Y σ'->Q (.list (nums (List.zipWith f xs ys))) σ'):wE J pg d (.comp false elt [i,j] (.zip k w m) []) Q B Y:=by
 have key:wE J pg d w (λ va Y=>wE J pg d m (λ vb Y=>opt (Je va vb) λ vs=>compLoop (λ v K Y=>opt (lE true [i,j] v B) λ q=>wE J pg d elt (λ r Y=>K [r] Y) q Y) (λ D=>True) vs (λ n Y=>short n=true/\Q (.list n) Y) [] Y) B Y) B Y:=by
  refine z _ (U _ λ σ' v ex t=> ?_)
  have a:Je (.list (nums xs)) v=some ((xs.zip ys).map λ p=>V.tuple [.int (p.1:Int),.int (p.2:Int)]):=by
   have e:∀xs ys:aj,List.zipWith (λ x (y:Nat)=>V.tuple [x,.int (y:Int)]) (nums xs) ys=(xs.zip ys).map λ p=>V.tuple [.int (p.1:Int),.int (p.2:Int)]:=by
    intro xs
    induction xs with
    |nil=>exact λ ys=>rfl
    |cons x xs T=>intro ys;induction ys with
     |nil=>rfl
     |cons y ys=>exact aE (V.tuple [.int (x:Int),.int (y:Int)]::·) (T ys)
   rcases t with rfl|rfl
   ·refine aE some ((?_:List.zipWith (λ x y=>V.tuple [x,y]) (nums xs) (nums ys)=_).trans (e xs ys))
    rw[nums,List.zipWith_map_right]
   ·exact aE some (e xs ys)
  refine cX a ?_
  have o:(xs.zip ys).length<=100000:=by exact List.length_zip▸aa (Nat.min_le_left _ _) (aa N (by decide))
  have l:(xs.zip ys).flatMap (λ p=>[V.int ((f p.1 p.2:Nat):Int)])=nums (List.zipWith f xs ys):=by
   rw[gG,List.zip,nums,List.map_zipWith,List.map_zipWith]
  refine gX (λ p:Nat×Nat=>V.tuple [.int (p.1:Int),.int (p.2:Int)]) (λ p=>[V.int ((f p.1 p.2:Nat):Int)]) (·=σ') (λ D D=>trivial) _ [] σ' (λ p hp s A eq E=> ?_) rfl ?_ λ A eq=> ?_
  ·subst eq
   exact Ex (he p.1 (List.of_mem_zip hp).1 p.2 _) (E _ rfl)
  ·rw[k9,gG,aX]
   exact o
  ·subst eq
   rw[k9,l]
   refine⟨af ?_,g _ ex⟩
   rw[bH,List.length_zipWith]
   exact aa (Nat.min_le_left _ _) (aa N (by decide))
 exact key
theorem KG(q:Bool)(t:aj)(u:Ur t):tG (o8 q t++[10])=(t,if q then[10]else[]):=by
 induction q with
 |true=>
  refine(show o8 true t++[10]=34::(vB [34,92] t++34::[10]) by refine(?_:([34]++vB [34,92] t++[34])++[10]=_);rw[cj,cj];rfl).symm▸?_
  exact vI (p:=isQ) (λ acc=>qf rfl) rfl (.tail _ (.head _)) t (λ c D C=>cg λ e=>C (e▸.head _)) []
 |false=>
  refine(?_:tG (vB [34,92,32,10] t++[10])=(t,[]))
  obtain⟨i,G⟩:=u
  have main:=vI (p:=IV) (N:=[34,92,32,10]) (e:=[10]) (r:=[]) (λ acc=>qf rfl) rfl (.tail _ (.head _)) t (λ c C w=>CN w (G c C)) []
  induction t with
  |nil=>exact absurd rfl i
  |cons c t=>
   refine Eq.trans ?_ main
   rw[tJ]
   by_cases h:c∈[34,92,32,10]
   ·refine(aw h).symm▸?_
    rfl
   ·refine(av h).symm▸?_
    exact(av (by refine(CN h (G c (.head _))).symm▸?_;nofun)).trans (av λ e:c=34=>h (e▸.head _))
structure Cd where
 N:Nat->aj
 L:Nat->Lx
 r:Nat->Nat
 val:Nat->Nat
 q:Nat->Bool
 m1:Nat
 m2:Nat
noncomputable abbrev Cd.t(o:Cd)(n:Nat):aj:=tx o.m1 o.m2 n
noncomputable abbrev Cd.tv(o:Cd)(ns:aj):ar:=ns.map λ n=>V.str (o.t n)
structure iP(o:Cd):Prop where
 M:i6 o.m1 o.m2
 rl:∀c,c<6->o.r c<2^24
 vl:∀c,c<6->o.val c<2^24
 tx:∀c,c<6->(o.L c).text=o8 (o.q c) (o.t (o.r c))++[10]
 dj:∀c,c<6->∀c',c'<6->c≠c'->∀i,(o.L c).has i->¬(o.L c').has i
 nk:∀c,c<6->∀x∈o.N c,x<6
 nl:∀c,(o.N c).length<=2
 vr:∀c q,Ord o.N (c::q)->(c::q).Nodup->(∀x∈c::q,x<6)->o.val c=xs ((o.N c).map o.val++[o.r c])
inductive qP(o:Cd)(Y:Mem)(c:Nat)(ws:aj):Prop
 |more (ns:aj) (e:ws=ns++[o.r c]) (l:bE Y (o.L c) 0 (o.tv ns)):qP o Y c ws
 |last (k:Nat) (e:ws=[]) (l:bE Y (o.L c) k []) (e2:(o.L c).text.drop k=[]\/(o.L c).text.drop k=[10]):qP o Y c ws
theorem qP.lex{o:Cd}{c:Nat}{ws:aj}(h:qP o Y c ws):∃k x,bE Y (o.L c) k x:=by
 induction h with
 |more ns e l=>exact⟨_,_,l⟩
 |last k e l _=>exact⟨_,_,l⟩
theorem qP.keep{o:Cd}{Y σ':Mem}{c:Nat}{ws:aj}(h:qP o Y c ws)(w:Y.n<=σ'.n)(H:∀i,i<Y.n->(o.L c).has i->σ'.f i=Y.f i):qP o σ' c ws:=by
 induction h with
 |more ns e l=>exact .more ns e (l.keep w λ i hi=>H i (l.lt i hi) hi)
 |last k e l d=>exact .last k e (l.keep w λ i hi=>H i (l.lt i hi) hi) d
theorem gm.Ij{L:Lx}{Y σ':Mem}(c:zH L Y σ'):gm L.has Y σ':=⟨c.1,λ i hi I=>c.2 i hi (λ e=>I (.inl e)) λ e=>I (.inr (.inr (.inr (.inl e))))⟩
theorem Ik{m1 m2:Nat}(M:i6 m1 m2){n:Nat}(h:n<2^24):Ur (tx m1 m2 n):=Kp M ⟨nofun,pd h⟩
noncomputable abbrev mV(o:Cd):ar:=(List.range 6).map λ c=>V.ref (o.L c).il
theorem hV{n c:Nat}{f:Nat->V}(w:n<=1000)(C:c<n):gA Y (.list ((List.range n).map f)) (.int (c:Int))=some (f c):=by
 refine(aw (e:=none) (af (by rw[aX,bR];exact aa w (by decide)))).trans ((o9 _ c).trans ?_)
 refine(gN).symm▸(List.getElem?_range C).symm▸?_
 rfl
theorem qP.aY{o:Cd}{c:Nat}{ws:aj}(h:qP o Y c ws){m fa:Nat}(H:m≠12)(hm:pg.aY 59 m=some fa):ik pg Y (.ref (o.L c).il) m=some (.glob fa,[.ref (o.L c).il]):=by
 obtain⟨k,x,l⟩:=h.lex
 exact Q2 l H hm
theorem C3(H:pn J){o:Cd}(ok:iP o){c:Nat}(z:c<6){ws:aj}(h:qP o Y c ws)(N:ws.length<=1000)(k0:ws=[]->∀σ',qP o σ' c []->gm (o.L c).has Y σ'->Q (.str []) σ')(k1:∀w s,ws=w::s->∀σ',qP o σ' c s->gm (o.L c).has Y σ'->Q (.str (o.t w)) σ'):aH J (d+4) (.glob cI) [.ref (o.L c).il] [] [] Q Y:=by
 induction h with
 |more ns e l=>
  subst e
  induction ns with
  |nil=>
   refine o7 H l λ σ' E C hd ch=> ?_
   have e:tG ((o.L c).text.drop 0)=_:=(aE tG (ok.tx c z)).trans (KG (o.q c) _ (Ik ok.M (ok.rl c z)))
   rw[e]at hd⊢
   refine k1 (o.r c) [] rfl σ' (.last E rfl C ?_) (.Ij ch)
   refine hd.symm▸?_
   cases o.q c
   ·exact .inl rfl
   ·exact .inr rfl
  |cons n ns=>
   refine rj H l (by
    have:(ns.length+1)+1<=1000:=by have:=N;rw[bU]at this;exact this
    refine(?_:(o.tv ns).length+1<=100000)
    rw[aX]
    exact aa (qp (ai _)) (aa this (by decide))) ?_
   exact k1 n (ns++[o.r c]) rfl _ (.more ns rfl (l.pb _)) (.set (.inr (.inr (.inr (.inr rfl)))) _)
 |last k e l q=>
  have he:tG ((o.L c).text.drop k)=([],[]):=by rcases q with q|q<;>exact q.symm▸rfl<;>rfl
  refine o7 H l λ σ' E C hd ch=> ?_
  rw[he]at hd⊢
  exact k0 e σ' (.last E rfl C (.inl hd)) (.Ij ch)
noncomputable def oF(ms C mk S e I i G d m v10 v11 b k:V):ar:=[ms,C,mk,S,e,I,i,G,d,m,v10,v11,b,k]
noncomputable def X1:List MS:=[.assign [.var 8] (.comp false (.bin .BitXor (.var 10) (.var 11)) [10,11] (.zip 35 (.var 8) (.call (.ck 37) [.var 9,.var 2] [] [])) []),.assign [.var 9] (.aY (.sub (.var 0) (.var 4)) 13 [])]
noncomputable abbrev Wo(r:List MS):List MS:= .ft (.cmp .NotEq (.var 9) (.lit (.str []))) X1 []::r
noncomputable abbrev Wq(r:List MS):List MS:= .assign [.var 8] (.list false [.lit (.int 0),.lit (.int 0),.lit (.int 0)]):: .assign [.var 9] (.aY (.sub (.var 0) (.var 4)) 13 [])::Wo r
inductive Sa(o:Cd)(c fin:Nat)(nd S v5 v6 v7 v10 v11 eE eu:V)(Y:Mem)(n:Nat)(B:ar)(σ':Mem):Prop
 |on (w:Nat) (ws:aj) (a:Nat) (hr:B=oF (.list (mV o)) nd (.bytes [o.m1,o.m2]) S (.int (c:Int)) v5 v6 v7 (.list (nums (gZ a))) (.str (o.t w)) v10 v11 eE eu) (h:qP o σ' c ws) (f:gm (o.L c).has Y σ') (e:a^^^xs (w::ws)=fin) (hn:n=ws.length+1) (hw:∀x∈w::ws,x<2^24) (hl:ws.length<=1000):Sa o c fin nd S v5 v6 v7 v10 v11 eE eu Y n B σ'
 |fin (hr:B=oF (.list (mV o)) nd (.bytes [o.m1,o.m2]) S (.int (c:Int)) v5 v6 v7 (.list (nums (gZ fin))) (.str []) v10 v11 eE eu) (h:qP o σ' c []) (f:gm (o.L c).has Y σ') (hn:n=0):Sa o c fin nd S v5 v6 v7 v10 v11 eE eu Y n B σ'
theorem km{i:Nat}{e:ME}{r:List MS}{Q:Fl->ar->Mem->Prop}(h:wE J pg d e (λ v Y=>wSs J pg d r Q (B.set i v) Y) B Y):wSs J pg d (.assign [.var i] e::r) Q B Y:=h
theorem zS{o:Cd}{c:Nat}(C:c<6){z S I i G Q m v10 v11 b k:V}:Ev J d (.sub (.var 0) (.var 4)) (oF (.list (mV o)) z (.bytes [o.m1,o.m2]) S (.int (c:Int)) I i G Q m v10 v11 b k) Y (.ref (o.L c).il):=Ev.sub (va:= .list (mV o)) (vb:= .int (c:Int)) aB aB (hV (by decide) C)
theorem gm.ext{X:Nat->Prop}{Y σ' p:Mem}(f:gm X Y σ')(e:Ext σ' p):gm X Y p:=f.trans (.kh e)
theorem vO(H:pn J){o:Cd}(ok:iP o){c:Nat}(z:c<6){r:List MS}{Q:Fl->ar->Mem->Prop}{fin:Nat}{C S I v G v10 v11 b s:V}(k:∀σ',qP o σ' c []->gm (o.L c).has Y σ'->wSs J pg (d+4) r Q (oF (.list (mV o)) C (.bytes [o.m1,o.m2]) S (.int (c:Int)) I v G (.list (nums (gZ fin))) (.str []) v10 v11 b s) σ'){n:Nat}{B:ar}{σ':Mem}(h:Sa o c fin C S I v G v10 v11 b s Y n B σ'):wSs J pg (d+4) (Wo r) Q B σ':=by
 refine xw (Sa o c fin C S I v G v10 v11 b s Y) n h ?_
 rintro n B σ' (⟨w,ws,a,rfl,h,f,e,rfl,m,N⟩|⟨rfl,h,f,rfl⟩)
 ·have g:mq σ' .NotEq (.str (o.t w)) (.str [])=some true:=aE some (show(!(o.t w==[]))=true by
   refine(fS (Ik ok.M (m w (.head _))).1).symm▸?_
   rfl)
  refine⟨.bool true,true,Ev.cmp (va:= .str (o.t w)) (vb:= .str []) aB aB g,rfl,λ D K k1 k2=> ?_,nofun⟩
  refine km (qi (xs:=gZ a) (ys:=gZ w) (λ x y=>x^^^y) aB (λ K k=> ?_) (λ x D y σ'=>Ev.bin (va:= .int (x:Int)) (vb:= .int (y:Int)) aB aB L9) (by decide:3<=1000) λ p ex=> ?_)
  ·refine jm (d:=d+3) (a:=i5) aB ?_
   refine xK (vs:=[.str (o.t w),.bytes [o.m1,o.m2]]) (gD.cons rfl aB (gD.one rfl aB)) ?_
   exact N7 (d:=d+1) H.hd ok.M (pd (m w (.head _))) (by decide:3<=20000) λ p ex=>k p _ ex (.inr rfl)
  have T:List.zipWith (λ x y=>x^^^y) (gZ a) (gZ w)=gZ (a^^^w):=Ie a w
  refine T.symm▸?_
  have L:=h.keep ex.1 λ i hi D=>ex.2 i hi
  refine(?_:wSs J pg (d+4) _ K (oF (.list (mV o)) C (.bytes [o.m1,o.m2]) S (.int (c:Int)) I v G (.list (nums (gZ (a^^^w)))) (.str (o.t w)) v10 v11 b s) p)
  have U:a^^^w^^^xs ws=fin:=(Nat.xor_assoc a w (xs ws)).trans e
  refine gE (jL (zS z) (L.aY (by decide) rfl) ?_)
  refine C3 H ok z L N (λ j E h' u=> ?_) (λ t M j E h' u=> ?_)
  ·subst j
   have U:a^^^w=fin:=(Nat.xor_zero _).symm.trans U
   exact U▸(k1 0 _ _ (Nat.succ_pos _) (.fin rfl h' ((f.ext ex).trans u) rfl)).1
  ·subst j
   exact(k1 (M.length+1) _ _ (bF _) (.on t M (a^^^w) rfl h' ((f.ext ex).trans u) U rfl (λ x A=>m x (.tail _ A)) (aa (dC _) N))).1
 ·exact⟨.bool false,false,Ev.cmp (va:= .str []) (vb:= .str []) aB aB rfl,rfl,nofun,λ D=>k _ h f⟩
theorem EO(H:pn J){o:Cd}(ok:iP o){c:Nat}(C:c<6){ws:aj}(h:qP o Y c ws)(N:ws.length<=1000)(m:∀x∈ws,x<2^24){r:List MS}{Q:Fl->ar->Mem->Prop}{z S u i G q f v10 v11 b s:V}(k:∀σ',qP o σ' c []->gm (o.L c).has Y σ'->wSs J pg (d+4) r Q (oF (.list (mV o)) z (.bytes [o.m1,o.m2]) S (.int (c:Int)) u i G (.list (nums (gZ (xs ws)))) (.str []) v10 v11 b s) σ'):wSs J pg (d+4) (Wq r) Q (oF (.list (mV o)) z (.bytes [o.m1,o.m2]) S (.int (c:Int)) u i G q f v10 v11 b s) Y:=by
 refine cH (v:= .list (nums (gZ 0))) aB ?_
 refine gE (jL (zS C) (h.aY (by decide) rfl) ?_)
 refine C3 H ok C h N (λ e σ' h' I=> ?_) (λ w U e σ' h' I=> ?_)
 ·subst e
  exact vO H ok C k (.fin rfl h' I rfl)
 ·subst e
  exact vO H ok C k (.on w U 0 rfl h' I (Nat.zero_xor _) rfl m (aa (dC _) N))
noncomputable def Il(N:Nat->aj)(c:Nat):aj->aj
 |[]=>[]
 |o::O=>Il N c O++(N c).filter λ x=>x==o
theorem qj(N:Nat->aj)(c a:Nat):∀{O:aj},O.Nodup->(Il N c O).count a=if a∈O then(N c).count a else 0
 |[],_=>rfl
 |o::O,h=>by
  have h:=fh.mp h
  refine(?_:(Il N c O++(N c).filter λ x=>x==o).count a=_)
  rw[List.count_append,qj N c a h.2]
  by_cases e:a=o
  ·rw[e,av h.1,aw (show o∈o::O from .head _),List.count_filter (p:=λ x=>x==o) (hZ o),gM]
  ·have z:((N c).filter λ x=>x==o).count a=0:=i8.mpr λ m=>e (bh (jN.mp m).2)
   rw[z,Nat.add_zero]
   by_cases m:a∈O
   ·rw[aw m,aw (show a∈o::O from .tail _ m)]
   ·rw[av m,av λ q=>m ((bg.mp q).resolve_left e)]
theorem Im(N:Nat->aj)(c:Nat){O:aj}(h:O.Nodup)(L:∀x∈N c,x∈O):(Il N c O).Perm (N c):=List.perm_iff_count.mpr λ a=>by
 rw[qj N c a h]
 by_cases m:a∈O
 ·rw[aw m]
 ·rw[av m,i8.mpr λ q=>m (L a q)]
theorem C4{N:Nat->aj}{c x:Nat}:∀{O:aj},x∈Il N c O->x∈N c
 |_::_,h=>(dZ.mp h).elim C4 λ m=>(jN.mp m).1
theorem C5(N:Nat->aj)(c:Nat):∀O:aj,(Il N c O).length<=O.length*(N c).length
 |[]=>dF _
 |o::O=>by
  refine(?_:(Il N c O++(N c).filter λ x=>x==o).length<=(O.length+1)*(N c).length)
  rw[bU,Nat.succ_mul]
  exact fk (C5 N c O) (jO _ _)
noncomputable def jo(o:Cd)(O:aj)(c:Nat):aj:=if c∈O then[]else(Il o.N c O).map o.val++[o.r c]
theorem nI{O:aj}(h:O.Nodup)(H:∀c∈O,c<6):O.length<=6:=by
 have:=h.length_le_of_subset (l₂:=List.range 6) λ x I=>dU.mpr (H x I)
 rw[bR]at this
 exact this
theorem tR{o:Cd}(ok:iP o)(c:Nat){O:aj}(h:O.Nodup)(H:∀c∈O,c<6):(Il o.N c O).length<=12:=aa (C5 o.N c O) (Nat.mul_le_mul (nI h H) (ok.nl c))
theorem Io{o:Cd}(ok:iP o)(c:Nat){O:aj}(h:O.Nodup)(H:∀c∈O,c<6):(jo o O c).length<=1000:=by
 unfold jo
 by_cases m:c∈O
 ·exact aw m▸dF _
 ·rw[av m,cY,aX]
  exact aa (gI (tR ok c h H)) (by decide)
theorem KH{o:Cd}(ok:iP o){c:Nat}(C:c<6)(O:aj):∀x∈jo o O c,x<2^24:=λ x I=>by
 unfold jo at I
 by_cases m:c∈O
 ·rw[aw m]at I;exact absurd I dt
 ·rw[av m]at I
  exact dp I (λ I=>by
   obtain⟨y,j,rfl⟩:=cQ.mp I
   exact ok.vl y (ok.nk c C y (C4 j))) λ e=>e▸ok.rl c C
theorem Ip{o:Cd}(ok:iP o){c:Nat}{O:aj}(h:Ord o.N (c::O))(w:(c::O).Nodup)(H:∀x∈c::O,x<6):xs (jo o O c)=o.val c:=by
 have A:=fh.mp w
 unfold jo
 rw[av A.1,ok.vr c O h w H]
 exact KD (((Im o.N c A.2 h.1).map o.val).append (List.Perm.refl _))
noncomputable def xR(f:Nat->aj)(P:aj):List (Int×V):=P.map λ c:Nat=>((c:Int),V.str (f c))
theorem gc(f:Nat->aj)(c:Nat)(P:aj):(xR f P).lookup (c:Int)=if c∈P then some (.str (f c))else none:=by
 induction P with
 |nil=>rfl
 |cons k P y=>
  refine(?_:(((k:Int),V.str (f k))::xR f P).lookup (c:Int)=_)
  rw[eF]
  by_cases h:c=k
  ·rw[h,eq_int,aw (show k∈k::P from .head _)]
  ·rw[ne_int h]
   refine y.trans ?_
   by_cases m:c∈P
   ·rw[aw m,aw (show c∈k::P from .tail _ m)]
   ·rw[av m,av λ q=>m ((bg.mp q).resolve_left h)]
theorem C6(f:Nat->aj)(P:aj)(c:Nat):xR f (P++[c])=xR f P++[((c:Int),.str (f c))]:=fj
noncomputable def BF(o:Cd)(i:Nat):Prop:=∃c,c<6/\(o.L c).has i
structure OM(o:Cd)(aR Y:Mem)(n1:Nat)(O:aj)(W:Nat->aj):Prop where
 fm:gm (BF o) aR Y
 op:∃ep,Y.f n1= .dict (xR (λ c=>o.t (o.val c)) O.reverse) ep
 g1:aR.n<=n1
 g2:n1<Y.n
 lx:∀c,c<6->qP o Y c (W c)
 lt:∀i,BF o i->i<aR.n
noncomputable def Zs(o:Cd)(n1 i:Nat):Prop:=BF o i\/i=n1
theorem gm.mono{X a:Nat->Prop}{Y σ':Mem}(h:gm X Y σ')(s:∀i,X i->a i):gm a Y σ':=⟨h.1,λ i hi j=>h.2 i hi λ I=>j (s i I)⟩
theorem OM.lex{o:Cd}(ok:iP o){n Y σ':Mem}{n1:Nat}{O:aj}{W W':Nat->aj}(h:OM o n Y n1 O W){c:Nat}(C:c<6)(f:gm (o.L c).has Y σ')(N:qP o σ' c (W' c))(w:∀G,G<6->G≠c->W' G=W G):OM o n σ' n1 O W':=by
 have U:gm (BF o) Y σ':=f.mono λ i hi=>⟨c,C,hi⟩
 obtain⟨ep,M⟩:=h.op
 refine⟨h.fm.trans U,⟨ep,(U.2 n1 h.g2 λ I=>d0 _ (ah (h.lt n1 I) h.g1)).trans M⟩,h.g1,ah h.g2 f.1,λ G l=> ?_,h.lt⟩
 by_cases e:G=c
 ·exact e▸N
 ·exact w G l e▸(h.lx G l).keep f.1 λ i hi I=>f.2 i hi λ t=>ok.dj G l c C e i I t
theorem OM.ext{o:Cd}{f Y σ':Mem}{n1:Nat}{O:aj}{W:Nat->aj}(h:OM o f Y n1 O W)(e:Ext Y σ'):OM o f σ' n1 O W:=by
 obtain⟨ep,U⟩:=h.op
 exact⟨h.fm.ext e,⟨ep,(e.2 n1 h.g2).trans U⟩,h.g1,ah h.g2 e.1,λ c C=>(h.lx c C).keep e.1 λ i hi D=>e.2 i hi,h.lt⟩
theorem OM.words{o:Cd}{f Y:Mem}{n1:Nat}{O:aj}{W W':Nat->aj}(h:OM o f Y n1 O W)(w:∀c,c<6->W' c=W c):OM o f Y n1 O W':=⟨h.fm,h.op,h.g1,h.g2,λ c C=>by rw[w c C];exact h.lx c C,h.lt⟩
theorem OM.note{o:Cd}{f Y:Mem}{n1:Nat}{O:aj}{W:Nat->aj}(h:OM o f Y n1 O W)(c ep:Nat):OM o f (Y.set n1 (.dict (xR (λ c=>o.t (o.val c)) (c::O).reverse) ep)) n1 (c::O) W:=⟨⟨h.fm.1,λ i hi I=>(Mem.dS _ _ (az (ah hi h.g1))).trans (h.fm.2 i hi I)⟩,⟨ep,Mem.aO _ _ _⟩,h.g1,h.g2,λ c C=>(h.lx c C).keep (ai _) λ i hi I=>Mem.dS _ _ (az (ah (h.lt i ⟨c,C,I⟩) h.g1)),h.lt⟩
structure kU(o:Cd)(Y:Mem)(a:Nat)(b:Nat->Nat):Prop where
 ha:Y.f a= .list ((List.range 6).map λ c=>V.ref (b c))
 hb:∀c,c<6->Y.f (b c)= .list (nums (o.N c))
 la:a<Y.n/\¬BF o a
 lb:∀c,c<6->b c<Y.n/\¬BF o (b c)
theorem kU.keep{o:Cd}{Y σ':Mem}{a:Nat}{b:Nat->Nat}(h:kU o Y a b)(f:gm (BF o) Y σ'):kU o σ' a b:=⟨(f.2 a h.la.1 h.la.2).trans h.ha,λ c C=>(f.2 _ (h.lb c C).1 (h.lb c C).2).trans (h.hb c C),⟨ah h.la.1 f.1,h.la.2⟩,λ c C=>⟨ah (h.lb c C).1 f.1,(h.lb c C).2⟩⟩
theorem kU.sub{o:Cd}{a:Nat}{b:Nat->Nat}(h:kU o Y a b){c:Nat}(C:c<6):gA Y (.ref a) (.int (c:Int))=some (.ref (b c)):=by
 have e:gA Y (.ref a) (.int (c:Int))=gA Y (.list ((List.range 6).map λ c=>V.ref (b c))) (.int (c:Int)):=by
  refine(?_:(match Y.f a with| .list vs=>_| .dict bC _=>_|_=>none)=_)
  rw[h.ha]
  rfl
 exact e.trans (hV (by decide) C)
noncomputable def kF(o:Cd)(a n1 c:Nat)(S I G d m v10 v11 b k:V):ar:=oF (.list (mV o)) (.ref a) (.bytes [o.m1,o.m2]) S (.int (c:Int)) I (.ref n1) G d m v10 v11 b k
noncomputable def Ma:List MS:=[.dP (.cmp .Eq (.var 13) (.var 4)) [.expr (.aY (.sub (.var 0) (.var 12)) 14 [.sub (.var 6) (.var 4)])] []]
noncomputable abbrev Mb(r:List MS):List MS:= .eR [12] (.range 17 [.lit (.int 6)]) [.eR [13] (.sub (.var 1) (.var 12)) Ma]::r
inductive PI(o:Cd)(aR:Mem)(a n1:Nat)(O:aj)(W:Nat->aj)(c e:Nat)(fin:aj)(S v5 v7 v8 v9 v10 v11:V)(tT:Mem)(l:aj)(B:ar)(σ':Mem):Prop
 |mk (eu:V) (cur:aj) (hr:B=kF o a n1 c S v5 v7 v8 v9 v10 v11 (.int (e:Int)) eu) (om:OM o aR σ' n1 (c::O) (upd W e cur)) (f:gm (BF o) tT σ') (h:(∃ns,cur=ns++[o.r e]/\fin=ns++(l.filter λ x=>x==c).map o.val++[o.r e])\/(cur=[]/\fin=[]/\c∉l)) (hl:cur.length+l.length<=50):PI o aR a n1 O W c e fin S v5 v7 v8 v9 v10 v11 tT l B σ'
theorem BG{o:Cd}{f Y:Mem}{n1 c:Nat}{O:aj}{W:Nat->aj}(h:OM o f Y n1 (c::O) W):gA Y (.ref n1) (.int (c:Int))=some (.str (o.t (o.val c))):=by
 obtain⟨ep,U⟩:=h.op
 refine(?_:(match Y.f n1 with| .list vs=>_| .dict bC _=>_|_=>none)=_)
 exact U▸(gc _ c _).trans (aw (fR.mpr (.head _)))
theorem Iq(H:pn J){o:Cd}(ok:iP o){j Y:Mem}{a n1 c e:Nat}{b:Nat->Nat}{O:aj}{W:Nat->aj}{fin:aj}{S I u L t v10 v11 M:V}{r:List MS}{Q:Fl->ar->Mem->Prop}(T:kU o j a b)(he:e<6)(N:OM o j Y n1 (c::O) W)(h:(∃ns,W e=ns++[o.r e]/\fin=ns++((o.N e).filter λ x=>x==c).map o.val++[o.r e])\/(W e=[]/\fin=[]/\c∉o.N e))(hl:(W e).length<=40)(k:∀σ' M,OM o j σ' n1 (c::O) (upd W e fin)->gm (BF o) Y σ'->wSs J pg (d+4) r Q (kF o a n1 c S I u L t v10 v11 (.int (e:Int)) M) σ'):wSs J pg (d+4) (.eR [13] (.sub (.var 1) (.var 12)) Ma::r) Q (kF o a n1 c S I u L t v10 v11 (.int (e:Int)) M) Y:=by
 have E:∀{σ':Mem}{W':Nat->aj},OM o j σ' n1 (c::O) W'->σ'.f (b e)= .list (nums (o.N e)):=λ N=>(T.keep N.fm).hb e he
 refine lM (λ x:Nat=>V.int (x:Int)) (vi:= .ref (b e)) (l:=o.N e) (Ev.sub (va:= .ref a) (vb:= .int (e:Int)) aB aB ((T.keep N.fm).sub he)) (aE (sv (b e)) (E N)) (PI o j a n1 O W c e fin S I u L t v10 v11 Y) ⟨M,W e,rfl,N.words λ p nO=> ?_,.refl _ _,h,fk (d:=10) hl (aa (ok.nl e) (by decide))⟩ ?_ ?_ ?_
 ·by_cases q:p=e
  ·rw[q,bo]
  ·rw[bT _ _ q]
 ·rintro l B σ' ⟨M,cur,D,f,D⟩
  exact E f
 ·rintro x l B σ' K ⟨M,cur,rfl,f,C,h',w⟩ kk
  have A:cur.length+1+l.length<=50:=aa (bN (iQ _ 1 _)) w
  refine(?_:wSs J pg (d+4) _ K (kF o a n1 c S I u L t v10 v11 (.int (e:Int)) (.int (x:Int))) σ')
  refine lL (x:=x) (n:=c) aB aB (λ z=> ?_) (λ z=> ?_)
  ·subst z
   rcases h' with⟨ns,U,s⟩|⟨D,D,y⟩
   ·subst U
    have st:=f.lx e he
    rw[bo]at st
    rw[kZ,aw (hZ x)]at s
    have push:∀{kk:Nat}{pb:ar},bE σ' (o.L e) kk pb->qP o σ' e (ns++[o.r e])->(∃G,ns++[o.r e]=G++[o.r e]/\bE σ' (o.L e) 0 (o.tv G)):=λ D st=>by
     induction st with
     |more G e l=>exact⟨G,e,l⟩
     |last k e l _=>exact absurd (aE List.length e) (by rw[cY];nofun)
    obtain⟨kx,YA,lx⟩:=st.lex
    obtain⟨G,g,l4⟩:=push lx st
    have g:ns=G:=List.append_cancel_right g
    subst g
    have T1:ns.length<=100000:=by
     have:=A
     rw[cY]at this
     exact aa (aa (aa (au _ 2) (au _ _)) this) (by decide)
    refine gE (jL (v:= .ref (o.L e).il) (Ev.sub (va:= .list (mV o)) (vb:= .int (e:Int)) aB aB (hV (by decide) he)) (st.aY (by decide) rfl) ?_)
    refine xK (vs:=[.str (o.t (o.val x))]) (gD.one rfl (Ev.sub (va:= .ref n1) (vb:= .int (x:Int)) aB aB (BG f))) ?_
    refine uC (d:=d+3) H.hd l4 (by rw[aX];exact T1) ?_ nofun
    have fL:gm (o.L e).has σ' (σ'.set (o.L e).ip (.list (o.tv ns++[.str (o.t (o.val x))]))):= .set (.inr (.inr (.inr (.inr rfl)))) _
    have l5:=l4.pb (o.tv ns++[.str (o.t (o.val x))])
    refine(kk _ _ ⟨_,(ns++[o.val x])++[o.r e],rfl,f.lex (W':=upd W e ((ns++[o.val x])++[o.r e])) ok he fL ?_ λ p D fo=> ?_,C.trans (fL.mono λ i hi=>⟨e,he,hi⟩),.inl ⟨ns++[o.val x],rfl,?_⟩,?_⟩).1
    ·rw[bo]
     refine .more (ns++[o.val x]) rfl ?_
     rw[show o.tv (ns++[o.val x])=o.tv ns++[.str (o.t (o.val x))] from fj]
     exact l5
    ·rw[bT _ _ fo,bT _ _ fo]
    ·rw[s,cj ns [o.val x]]
     rfl
    ·rw[cY]at A⊢
     rw[cY]
     exact A
   ·exact absurd (List.Mem.head l) y
  ·refine eO (kk _ _ ⟨_,cur,rfl,f,C,?_,aa (eh (dC _) _) A⟩).1
   rcases h' with⟨ns,U,s⟩|⟨U,s,y⟩
   ·rw[kZ,av (by rw[fS z];nofun)]at s
    exact .inl ⟨ns,U,s⟩
   ·exact .inr ⟨U,s,λ m=>y (.tail _ m)⟩
 ·rintro B σ' ⟨M,cur,rfl,f,C,h',w⟩
  have e:cur=fin:=by
   rcases h' with⟨ns,U,s⟩|⟨U,s,D⟩
   ·rw[U,s,List.filter_nil,List.map_nil,d1]
   ·rw[U,s]
  rw[e]at f
  exact k σ' M f C
noncomputable def zU(o:Cd)(O:aj)(c G:Nat):aj:=if G=c then[]else jo o O G
noncomputable def Oq(o:Cd)(O:aj)(c:Nat)(es:aj)(G:Nat):aj:=if G∈es then zU o O c G else jo o (c::O) G
inductive QI(o:Cd)(aR:Mem)(a n1:Nat)(O:aj)(c:Nat)(S v5 v7 v8 v9 v10 v11:V)(tT:Mem)(es:aj)(B:ar)(σ':Mem):Prop
 |mk (eE eu:V) (hr:B=kF o a n1 c S v5 v7 v8 v9 v10 v11 eE eu) (om:OM o aR σ' n1 (c::O) (Oq o O c es)) (f:gm (BF o) tT σ') (h6:∀e∈es,e<6) (hn:es.Nodup):QI o aR a n1 O c S v5 v7 v8 v9 v10 v11 tT es B σ'
theorem Ir(H:pn J){o:Cd}(ok:iP o){f Y:Mem}{a n1 c:Nat}{b:Nat->Nat}{O:aj}{S I N i j v10 v11 h s:V}{r:List MS}{Q:Fl->ar->Mem->Prop}(y:kU o f a b)(E:Ord o.N (c::O))(w:(c::O).Nodup)(g:∀x∈c::O,x<6)(p:OM o f Y n1 (c::O) (zU o O c))(k:∀σ' h s,OM o f σ' n1 (c::O) (jo o (c::O))->gm (BF o) Y σ'->wSs J pg (d+4) r Q (kF o a n1 c S I N i j v10 v11 h s) σ'):wSs J pg (d+4) (Mb r) Q (kF o a n1 c S I N i j v10 v11 h s) Y:=by
 have A:=fh.mp w
 refine lM (λ x:Nat=>V.int (x:Int)) (vi:= .it false (nums (List.range 6))) (l:=List.range 6) (Ev.range (n:=6) rfl aB (by decide)) rfl (QI o f a n1 O c S I N i j v10 v11 Y) ⟨h,s,rfl,p.words λ G v=>aw (dU.mpr v),.refl _ _,λ e he=>dU.mp he,List.nodup_range⟩ (λ D D D D=>trivial) ?_ ?_
 ·rintro e es B σ' K ⟨h,s,rfl,t,u,T,X3⟩ kk
  have he:=T e (.head _)
  have U:=fh.mp X3
  have M:Oq o O c (e::es) e=zU o O c e:=aw (.head _)
  refine(?_:wSs J pg (d+4) _ K (kF o a n1 c S I N i j v10 v11 (.int (e:Int)) s) σ')
  refine Iq H ok (fin:=jo o (c::O) e) y he t ?_ ?_ λ aS UJ vP yf=> ?_
  ·rw[M]
   by_cases m:e∈c::O
   ·refine .inr ⟨?_,aw m,λ C=> ?_⟩
    ·unfold zU
     by_cases q:e=c
     ·exact aw q
     ·rw[av q]
      exact aw ((bg.mp m).resolve_left q)
    ·rcases bg.mp m with q|q
     ·exact A.1 (E.1 c (q▸C))
     ·exact A.1 (E.2.sub e q c C)
   ·refine .inl ⟨(Il o.N e O).map o.val,?_,?_⟩
    ·unfold zU
     rw[av λ q:e=c=>m (q▸.head _)]
     exact av λ q=>m (.tail _ q)
    ·refine(av m).trans ?_
     rw[<-fj]
     rfl
  ·rw[M]
   unfold zU jo
   by_cases q:e=c
   ·rw[aw q];exact dF _
   ·rw[av q]
    by_cases m:e∈O
    ·rw[aw m];exact dF _
    ·rw[av m,cY,aX]
     exact aa (gI (tR ok e A.2 λ x L=>g x (.tail _ L))) (by decide)
  ·refine(kk _ _ ⟨_,UJ,rfl,vP.words λ G v=> ?_,u.trans yf,λ x L=>T x (.tail _ L),U.2⟩).1
   by_cases q:G=e
   ·rw[q,bo];exact av U.1
   ·rw[bT _ _ q]
    unfold Oq
    by_cases m:G∈es
    ·rw[aw m,aw (show G∈e::es from .tail _ m)]
    ·rw[av m,av λ z=>m ((bg.mp z).resolve_left q)]
 ·rintro B σ' ⟨h,s,rfl,t,u,D,D⟩
  exact k σ' h s (t.words λ G D=>(av nofun).symm) u
theorem Iu{o i e:ME}{r:List MS}{Q:Fl->ar->Mem->Prop}{a ep:Nat}{N:List (Int×V)}{k:Int}{v:V}(he:∀K:eY,(∀σ',Ext Y σ'->K v σ')->wE J pg d e K B Y)(E:∀σ',Ev J d o B σ' (.ref a))(hi:∀σ',Ev J d i B σ' (.int k))(z:Y.f a= .dict N ep)(I:a<Y.n)(L:N.length<=100000)(h:∀σ' l,Ext Y σ'->wSs J pg d r Q B (σ'.set a (.dict (putD N k v) l))):wSs J pg d (.assign [.sub o i] e::r) Q B Y:=he _ λ σ' ex=>E σ' _ (hi σ' _ (by
  have C:jd σ' (.ref a) (.int k) v=some λ ep=>σ'.set a (.dict (putD N k v) ep):=by
   exact(aE (ot σ' a k v) ((ex.2 a I).trans z)).trans (aw (af L))
  refine(?_:opt (jd σ' (.ref a) (.int k) v) _)
  rw[C]
  exact λ l=>h σ' l ex))
noncomputable abbrev C7(r:List MS):List MS:=Wq (.assign [.sub (.var 6) (.var 4)] (.aY (.call (.ck 38) [.call (.ck 5) [.var 8] [] [],.var 2] [] []) 10 [.lit (.str [97,115,99,105,105])])::Mb r)
theorem EP(H:pn J){o:Cd}(ok:iP o){f Y:Mem}{a n1 c:Nat}{b:Nat->Nat}{O:aj}{S I G h n v10 v11 e s:V}{r:List MS}{Q:Fl->ar->Mem->Prop}(y:kU o f a b)(E:Ord o.N (c::O))(j:(c::O).Nodup)(L:∀x∈c::O,x<6)(U:OM o f Y n1 O (jo o O))(k:∀σ' h n v10 v11 e s,OM o f σ' n1 (c::O) (jo o (c::O))->gm (Zs o n1) Y σ'->wSs J pg (d+4) r Q (kF o a n1 c S I G h n v10 v11 e s) σ'):wSs J pg (d+4) (C7 r) Q (kF o a n1 c S I G h n v10 v11 e s) Y:=by
 have C:=L c (.head _)
 have A:=fh.mp j
 have M:=ok.vl c C
 have N:∀x∈O,x<6:=λ x g=>L x (.tail _ g)
 refine EO H ok C (U.lx c C) (Io ok c A.2 N) (KH ok C O) λ z st u=> ?_
 rw[Ip ok E j L]
 have t:OM o f z n1 O (zU o O c):=U.lex ok C u (by unfold zU;rw[aw rfl];exact st) λ c' D q=>av q
 refine(?_:wSs J pg (d+4) _ Q (kF o a n1 c S I G (.list (nums (gZ (o.val c)))) (.str []) v10 v11 e s) z)
 obtain⟨ep,T⟩:=t.op
 refine Iu (a:=n1) (k:=(c:Int)) (v:= .str (o.t (o.val c))) (λ K k=> ?_) (λ D K k=>k) (λ D K k=>k) T t.g2 (by
  unfold xR
  rw[aX,qm]
  exact aa (nI A.2 N) (by decide)) λ aS p ex=> ?_
 ·exact Kq (d:=d+1) H.hd ok.M (l:=gZ (o.val c)) (ka (b:= .ty .bytes) (w:= .list (nums (gZ (o.val c)))) aB rfl aB (HG rfl (by decide:3<=100000) (pd M))) aB rfl rfl (by decide:3<=20000) (pd M) k
 have vP:=(t.ext ex).note c p
 rw[pa (by rw[gc];exact av λ m=>A.1 (fR.mp m)),<-C6 (λ c=>o.t (o.val c)),<-mG]
 refine Ir H ok y E j L vP λ fH e s Rn UK=> ?_
 exact k fH _ _ _ _ _ _ Rn (((u.mono λ i hi=> .inl ⟨c,C,hi⟩).ext ex).trans ((gm.set (X:=Zs o n1) (.inr rfl) _).trans (UK.mono λ i hi=> .inl hi)))
theorem C8(N:aj):∀(keys:aj)(x:Nat),x∈N.foldl ins keys↔x∈keys\/x∈N:=by
 induction N with
 |nil=>exact λ keys x=>⟨.inl,λ h=>h.elim id nofun⟩
 |cons p N y=>
  intro keys x
  refine(y (ins keys p) x).trans ⟨λ h=> ?_,λ h=> ?_⟩
  ·refine h.elim (λ h=> ?_) λ h=> .inr (.tail _ h)
   unfold ins at h
   by_cases m:p∈keys
   ·rw[aw m]at h;exact .inl h
   ·rw[av m]at h;exact dp h .inl λ e=> .inr (e▸.head _)
  ·exact h.elim (λ h=> .inl (CX h)) λ h=>(bg.mp h).elim (λ e=> .inl (e▸mj keys p)) .inr
theorem zV(c:Nat)(N:aj):∀(T:Nat->aj)(x s:Nat),((N.foldl (kL c) T) x).count s=(T x).count s+if s=c then N.count x else 0:=by
 induction N with
 |nil=>
  intro T x s
  by_cases e:s=c
  ·refine(aw e).symm▸?_;rfl
  ·refine(av e).symm▸?_;rfl
 |cons p N y=>
  intro T x s
  refine(y (kL c T p) x s).trans ?_
  delta kL
  by_cases e:x=p
  ·rw[e,bo,List.count_append,gp]
   refine aE ((T p).count s+·) ?_
   by_cases q:s=c
   ·rw[q,aw rfl,aw rfl,List.count_cons_self,List.count_cons_self,ff];rfl
   ·exact(av q).symm▸(av q).symm▸(i8.mpr λ m=>q (cR.mp m)).symm▸rfl
  ·exact(bT _ _ e).symm▸(List.count_cons_of_ne (Ne.symm e)).symm▸rfl
theorem ER(c:Nat)(N:aj):∀(T:Nat->aj)(x:Nat),((N.foldl (kL c) T) x).length<=(T x).length+N.length:=by
 induction N with
 |nil=>exact λ T x=>ai _
 |cons p N y=>
  intro T x
  refine aa (y (kL c T p) x) (aa (eh (m:=(T x).length+1) ?_ _) (bN (iQ _ 1 _)))
  delta kL
  by_cases e:x=p
  ·rw[e,bo,cY];exact ai _
  ·refine(bT _ _ e).symm▸?_;exact dC _
theorem Ord.app{N:Nat->aj}{O:aj}(E:Ord N O):∀{l:aj},(∀x∈l,∀n∈N x,n∈O)->Ord N (l++O)
 |[],_=>E
 |x::l,h=>⟨λ n w=>jq _ (h x (.head _) n w),E.app λ y j=>h y (.tail _ j)⟩
theorem KJ{o e a:ME}{m fa:Nat}{K:eY}{i j C:Nat}{as:List (Nat×V)}{v:V}{vs:ar}(E:Ev J d o B Y (.ref i))(hi:Y.f i= .inst C as)(z:pg.insts.contains C=true)(hm:pg.aY C m=some fa)(L:e.isStar=false)(he:Ev J d e B Y v)(y:Ev J d a B Y (.ref j))(s:Y.f j= .list vs)(N:vs.length<=100000)(h:gB J d (.glob fa) (.ref i::v::vs) [] [] K Y):wE J pg d (.mP o m [e,.star a]) K B Y:=E _ (by
 refine(?_:(match Y.f i with| .inst C _=>_|_=>False))
 refine hi.symm▸?_
 refine⟨z,cX hm ?_⟩
 have key:gD J d [e,.star a] B Y (v::vs):=gD.cons L he λ K k=>by
  refine(?_:wE J pg d a _ B Y)
  refine Ex y ?_
  have U:RN true (.ref j) Y=some vs:=by
   refine(?_:(match(Y.f j).fq with|some vs=>if short vs then some vs else none|none=>none)=_)
   refine s.symm▸?_
   exact aw (af N)
  refine cX U ?_
  refine(?_:K (vs++[]) Y)
  rw[d1]
  exact k
 exact key _ h)
structure Told(o:Cd)(ds keys:aj)(np:Nat->Int)(su:Nat->aj):Prop where
 k6:∀k∈keys,k<6
 kd:∀k∈ds,k∈keys
 hn:∀c,np c=if c∈ds then((o.N c).length:Int)else 0
 hs:∀x s,(su x).count s=if s∈ds then(o.N s).count x else 0
 sl:∀x,(su x).length<=2*ds.length
theorem Told.next{o:Cd}(ok:iP o){f keys:aj}{np:Nat->Int}{T:Nat->aj}(h:Told o f keys np T){c:Nat}(C:c<6)(hd:c∉f):Told o (f++[c]) ((o.N c).foldl ins (ins keys c)) (upd np c (np c+(o.N c).length)) ((o.N c).foldl (kL c) T):=by
 have hi:∀x,x∈ins keys c->x<6:=λ x I=>by
  unfold ins at I
  by_cases m:c∈keys
  ·rw[aw m]at I;exact h.k6 x I
  ·rw[av m]at I;exact dp I (h.k6 x) λ e=>e▸C
 refine⟨λ k H=>((C8 _ _ _).mp H).elim (hi k) (ok.nk c C k),λ k H=>(C8 _ _ _).mpr (.inl (dp H (λ H=>CX (h.kd k H)) λ e=>e▸mj keys c)),λ x=> ?_,λ x s=> ?_,λ x=> ?_⟩
 ·by_cases e:x=c
  ·rw[e,bo,h.hn c,av hd,aw kc]
   exact Int.zero_add _
  ·refine(bT _ _ e).symm▸(h.hn x).symm▸?_
   by_cases m:x∈f
   ·exact(aw m).symm▸(aw (gP _ m)).symm▸rfl
   ·exact(av m).symm▸(av λ q=>dp q m e).symm▸rfl
 ·rw[zV,h.hs x s]
  by_cases e:s=c
  ·rw[e,av hd,aw rfl,aw kc,gM]
  ·rw[av e,Nat.add_zero]
   by_cases m:s∈f
   ·exact(aw m).symm▸(aw (gP _ m)).symm▸rfl
   ·exact(av m).symm▸(av λ q=>dp q m e).symm▸rfl
 ·rw[cY,Nat.mul_succ]
  exact aa (ER _ _ _ _) (fk (h.sl x) (ok.nl c))
noncomputable def Ro:List MS:=[.expr (.mP (.var 3) 5 [.var 4,.star (.sub (.var 1) (.var 4))])]
noncomputable abbrev tF(o:Cd)(a S:Nat)(e:V):ar:=oF (.list (mV o)) (.ref a) (.bytes [o.m1,o.m2]) (.ref S) e .aF .aF .aF .aF .aF .aF .aF .aF .aF
inductive AI(o:Cd)(aR:Mem)(a:Nat)(cs:aj)(B:ar)(σ':Mem):Prop
 |mk (ds keys:aj) (A b:Nat->Nat) (np:Nat->Int) (su:Nat->aj) (v4:V) (hd:ds++cs=List.range 6) (hr:B=tF o a aR.n v4) (at_:bw (λ i=>aR.n<=i) σ' aR.n (aR.n+1) keys A b np su none 0 0) (ex:Ext aR σ') (t:Told o ds keys np su):AI o aR a cs B σ'
theorem Iw(H:pn J){o:Cd}(ok:iP o){t:Mem}{a:Nat}{b:Nat->Nat}(y:kU o t a b){r:List MS}{Q:Fl->ar->Mem->Prop}(h:∀σ' keys A f np T U,bw (λ i=>t.n<=i) σ' t.n (t.n+1) keys A f np T none 0 0->Ext t σ'->Told o (List.range 6) keys np T->wSs J pg (d+4) r Q (tF o a t.n U) σ'):wSs J pg (d+4) (.assign [.var 3] (.call (.ck 36) [] [] []):: .eR [4] (.range 17 [.lit (.int 6)]) Ro::r) Q (oF (.list (mV o)) (.ref a) (.bytes [o.m1,o.m2]) .aF .aF .aF .aF .aF .aF .aF .aF .aF .aF .aF) t:=by
 refine km (jm (d:=d+3) (a:=260) aB ?_)
 refine uE (d:=d+2) H.hd λ L N n₁ M=> ?_
 refine(?_:wSs J pg (d+4) _ Q (tF o a t.n .aF) L)
 refine lM (λ x:Nat=>V.int (x:Int)) (vi:= .it false (nums (List.range 6))) (l:=List.range 6) (Ev.range (n:=6) rfl aB (by decide)) rfl (AI o t a) ⟨[],[],_,_,_,_,.aF,rfl,rfl,M,N,nofun,nofun,λ D=>rfl,λ D D=>rfl,λ D=>ai _⟩ (λ D D D D=>trivial) ?_ ?_
 ·rintro c cs B σ' K ⟨q,keys,A,f,np,T,U,hd,rfl,at',z,k⟩ kk
  have s:=List.nodup_append.mp (hd▸List.nodup_range (n:=6))
  have g:c<6:=dU.mp (hd▸jq _ (.head _))
  have G:c∉q:=λ m=>s.2.2 c m c (.head _) rfl
  have I:q.length<=6:=by
   have:=aE List.length hd
   rw[bU,bR]at this
   exact this▸au _ _
  have YB:=z.2
  have u:gA σ' (.ref a) (.int (c:Int))=some (.ref (b c)):=by
   have e:gA σ' (.ref a) (.int (c:Int))=gA σ' (.list ((List.range 6).map λ c=>V.ref (b c))) (.int (c:Int)):=by
    refine(?_:(match σ'.f a with| .list vs=>_| .dict bC _=>_|_=>none)=_)
    refine((z.2 a y.la.1).trans y.ha).symm▸?_
    rfl
   exact e.trans (hV (by decide) g)
  refine(?_:wSs J pg (d+4) _ K (tF o a t.n (.int (c:Int))) σ')
  refine gE (KJ (i:=t.n) (C:=260) (j:=b c) (vs:=nums (o.N c)) (v:= .int (c:Int)) aB at'.s rfl (fa:=bz) rfl rfl aB (Ev.sub (va:= .ref a) (vb:= .int (c:Int)) aB aB u) ((z.2 _ (y.lb c g).1).trans (y.hb c g)) (by rw[bH];exact aa (ok.nl c) (by decide)) ?_)
  have p:keys.length<=6:=nI at'.nd k.k6
  refine Ob (d:=d) H.hd at' c (o.N c) (λ i hi=>aa z.1 hi) (b9 (gI (fk p (ok.nl c))) (by decide)) (λ x=>aa (fk (aa (k.sl x) (nS 2 I)) (ok.nl c)) (by decide)) λ aS A' w Rq E=> ?_
  exact(kk _ _ ⟨q++[c],_,A',w,_,_,_,(cj _ [c] _).trans hd,rfl,Rq,⟨aa z.1 E.1,λ i hi=>(E.2 i (ah hi z.1) (iR.mpr hi)).trans (z.2 i hi)⟩,k.next ok g G⟩).1
 ·rintro B σ' ⟨q,keys,A,f,np,T,U,hd,rfl,at',z,k⟩
  have hd:q=List.range 6:=(d1 _).symm.trans hd
  subst hd
  exact h σ' keys A f np T U at' z k
noncomputable abbrev gF(o:Cd)(a n1:Nat)(S e I G d m v10 v11 b k:V):ar:=oF (.list (mV o)) (.ref a) (.bytes [o.m1,o.m2]) S e I (.ref n1) G d m v10 v11 b k
inductive OG(o:Cd)(aR:Mem)(a n1:Nat)(O G:aj)(S v5 v7:V)(tT:Mem)(rest:aj)(B:ar)(σ':Mem):Prop
 |mk (pre:aj) (v4 v8 v9 v10 v11 eE eu:V) (hp:pre++rest=G) (hr:B=gF o a n1 S v4 v5 v7 v8 v9 v10 v11 eE eu) (om:OM o aR σ' n1 (pre.reverse++O) (jo o (pre.reverse++O))) (f:gm (Zs o n1) tT σ'):OG o aR a n1 O G S v5 v7 tT rest B σ'
theorem BH(H:pn J){o:Cd}(ok:iP o){t Y:Mem}{a n1:Nat}{b:Nat->Nat}{keys O G:aj}{np:Nat->Int}{z:aj}{S U u q f v10 v11 h s:V}{r:List MS}{Q:Fl->ar->Mem->Prop}(T:kU o t a b)(j:KI o.N keys O G np z)(i:∀k∈keys,k<6)(E:OM o t Y n1 O (jo o O))(k:∀σ' U q f v10 v11 h s,OM o t σ' n1 (G.reverse++O) (jo o (G.reverse++O))->gm (Zs o n1) Y σ'->wSs J pg (d+4) r Q (gF o a n1 S U u (.tuple (nums G)) q f v10 v11 h s) σ'):wSs J pg (d+4) (.eR [4] (.var 7) (C7 [])::r) Q (gF o a n1 S U u (.tuple (nums G)) q f v10 v11 h s) Y:=by
 refine lM (λ x:Nat=>V.int (x:Int)) (vi:= .tuple (nums G)) (l:=G) (g:=λ D=>True) aB rfl (OG o t a n1 O G S u (.tuple (nums G)) Y) ⟨[],U,q,f,v10,v11,h,s,rfl,rfl,E,.refl _ _⟩ (λ D D D D=>trivial) ?_ ?_
 ·rintro c rest B σ' K ⟨pre,U,q,f,v10,v11,h,s,hp,rfl,A,L⟩ kk
  have M:∀x∈pre,x∈keys/\x∉O/\np x= -1/\∀n∈o.N x,n∈O:=λ x I=>j.g x (hp▸gP _ I)
  obtain⟨v,p,D,w⟩:=j.g c (hp▸jq _ (.head _))
  have N:=List.nodup_append.mp (hp▸j.gn)
  have X5:c∉pre:=λ m=>N.2.2 c m c (.head _) rfl
  have ho:Ord o.N (c::(pre.reverse++O)):=⟨λ n hn=>jq _ (w n hn),j.od.app λ x I=>(M x (fR.mp I)).2.2.2⟩
  have X6:(c::(pre.reverse++O)).Nodup:=fh.mpr ⟨λ m=>(dZ.mp m).elim (λ m=>X5 (fR.mp m)) p,List.nodup_append.mpr ⟨(List.reverse_perm pre).nodup_iff.mpr N.1,j.nd,λ x I y hy e=>(M x (fR.mp I)).2.1 (e▸hy)⟩⟩
  have Iy:∀x∈c::(pre.reverse++O),x<6:=dy.mpr ⟨i c v,λ x I=>(dZ.mp I).elim (λ m=>i x (M x (fR.mp m)).1) λ m=>i x (j.ok x m)⟩
  refine(?_:wSs J pg (d+4) (C7 []) K (kF o a n1 c S u (.tuple (nums G)) q f v10 v11 h s) σ')
  refine EP H ok T ho X6 Iy A λ aS w8 w9 UN UO UP UQ C yf=> ?_
  have e:c::(pre.reverse++O)=(pre++[c]).reverse++O:=by rw[List.reverse_append];rfl
  rw[e]at C
  exact(kk _ _ ⟨pre++[c],_,w8,w9,UN,UO,UP,UQ,(cj _ [c] _).trans hp,rfl,C,L.trans yf⟩).1
 ·rintro B σ' ⟨pre,U,q,f,v10,v11,h,s,hp,rfl,A,L⟩
  have hp:pre=G:=(d1 _).symm.trans hp
  subst hp
  exact k σ' U q f v10 v11 h s A L
structure Opened(o:Cd)(aR σ':Mem)(O:aj)(q:Bool)(n1:Nat):Prop where
 om:OM o aR σ' n1 O (jo o O)
 od:Ord o.N O
 nd:O.Nodup
 k6:∀c∈O,c<6
 rest:∀c,c<6->c∉O->∃x∈o.N c,x∉O
 q:q=true↔¬∀c,c<6->c∈O
noncomputable def Rr:List MS:=[.assign [.var 7] (.aY (.var 3) 17 []),.eR [4] (.var 7) (C7 []),.expr (.mP (.var 3) 19 [.star (.var 7)])]
inductive WI(o:Cd)(aR:Mem)(a n1 S D R:Nat)(keys:aj)(A b:Nat->Nat)(su:Nat->aj)(v5:V)(n:Nat)(B:ar)(σ':Mem):Prop
 |mk (O rd:aj) (np:Nat->Int) (pf:Int) (v4 v7 v8 v9 v10 v11 eE eu:V) (hr:B=gF o a n1 (.ref S) v4 v5 v7 v8 v9 v10 v11 eE eu) (at_:bw (λ i=>aR.n<=i/\i<n1) σ' S D keys A b np su (some (R,rd)) pf pf) (om:OM o aR σ' n1 O (jo o O)) (ki:KI o.N keys O [] np rd) (hn:n+O.length=6):WI o aR a n1 S D R keys A b su v5 n B σ'
theorem Iz(H:pn J){o:Cd}(ok:iP o){t Y:Mem}{a n1 S g R:Nat}{b:Nat->Nat}{keys L:aj}{A j:Nat->Nat}{T:Nat->aj}{np:Nat->Int}{q:Bool}{M y G l v10 v11 N u:V}{Q:Fl->ar->Mem->Prop}(nd:kU o t a b)(E:∀k,k∈keys↔k<6)(w:∀x s,(T x).count s=if s∈keys then(o.N s).count x else 0)(sl:∀x,(T x).length<=12)(hq:q=false/\H6 keys T\/q=true/\Oe keys T)(X7:bw (λ i=>t.n<=i/\i<n1) Y S g keys A j np T (some (R,L)) 0 0)(UR:KI o.N keys [] [] np L)(Wu:OM o t Y n1 [] (jo o []))(k:∀σ' O B,Opened o t σ' O q n1->Q (.ret (.tuple [.bool q,.ref n1])) B σ'):wSs J pg (d+4) [.ft (.aY (.var 3) 18 []) Rr [],.ret (.tuple [.var 5,.var 6])] Q (gF o a n1 (.ref S) M (.bool q) y G l v10 v11 N u) Y:=by
 have p:∀k∈keys,k<6:=λ k hk=>(E k).mp hk
 have US:∀x,∀s∈T x,s∈keys:=λ x s hs=>by
  have h1:=jP.mpr hs
  rw[w x s]at h1
  by_cases hk:s∈keys
  ·exact hk
  ·rw[av hk]at h1;exact absurd h1 (d0 0)
 have XZ:∀{i:Nat},(t.n<=i/\i<n1)->¬Zs o n1 i:=λ{i} hi hz=>hz.elim (λ hl=>d0 _ (ah (Wu.lt i hl) hi.1)) λ e=>d0 _ (e▸hi.2)
 have Wv:∀{Y σ':Mem}{O:aj}{W:Nat->aj},OM o t Y n1 O W->gm (λ i=>t.n<=i/\i<n1) Y σ'->OM o t σ' n1 O W:=λ{Y σ' O W} U f=>by
  obtain⟨ep,qs⟩:=U.op
  refine⟨⟨aa U.fm.1 f.1,λ i hi I=>(f.2 i (ah hi U.fm.1) λ h=>d0 _ (ah hi h.1)).trans (U.fm.2 i hi I)⟩,⟨ep,(f.2 n1 U.g2 λ h=>d0 _ h.2).trans qs⟩,U.g1,ah U.g2 f.1,λ c z=>(U.lx c z).keep f.1 λ i hi I=>f.2 i hi λ h=>d0 _ (ah (U.lt i ⟨c,z,I⟩) h.1),U.lt⟩
 refine xw (WI o t a n1 S g R keys A j T (.bool q)) 6 ⟨[],L,np,0,M,y,G,l,v10,v11,N,u,rfl,X7,Wu,UR,rfl⟩ ?_
 rintro n B aJ ⟨O,L,np,pf,M,y,G,l,v10,v11,N,u,rfl,Mc,Ww,r,hn⟩
 have kO:∀c∈O,c<6:=λ c z=>p c (r.ok c z)
 have UT:∀c∈L,c∈keys:=λ c z=>((r.rm c).mp z).1
 have Sb:L.length<=6:=nI r.rn λ c z=>p c (UT c z)
 have UU:Ev J (d+4) (.aY (.var 3) 18 []) (gF o a n1 (.ref S) M (.bool q) y G l v10 v11 N u) aJ (.bool (!L.isEmpty)):=λ K k=>by
  refine jL (v:= .ref S) aB (vK Mc.s (by decide) rfl) ?_
  refine xP (d:=d+3) H.hd Mc (aa Sb (by decide)) ?_
  exact cg (Int.lt_irrefl _)▸k
 refine⟨.bool (!L.isEmpty),_,UU,rfl,λ e K k1 D=> ?_,λ e=> ?_⟩
 ·have fo:L≠[]:=λ e'=>by rw[e']at e;exact nf e
  refine gE (jL (v:= .ref S) aB (vK Mc.s (by decide) rfl) ?_)
  refine xO (d:=d+3) H.hd Mc (aa Sb (by decide)) UT λ aS at2 f2 n2=> ?_
  refine(?_:wSs J pg (d+4) _ K (gF o a n1 (.ref S) M (.bool q) (.tuple (nums L)) G l v10 v11 N u) aS)
  have Wx:=r.out
  refine BH H ok nd Wx p (Wv Ww f2) λ fH w4 w8 w9 UN UO UP UQ X8 f3=> ?_
  have Wy:=at2.keep f3.1 λ i hi I=>f3.2 i hi (XZ I)
  obtain⟨UW,X9⟩:=Wx.round w
  refine gE (Om (i:=S) (C:=260) (vs:=nums L) aB Wy.s rfl (fa:=bp) rfl aB (by rw[bH];exact aa Sb (by decide)) ?_)
  refine Kz (d:=d+3) H.hd Wy UT (λ x D=>US x) (λ x=>aa (sl x) (by decide)) (dF _) (aa Sb (by decide)) X9 λ Me Yb f4 n4=> ?_
  have l6:=nI UW.nd λ c z=>p c (UW.ok c z)
  have lO:(L.reverse++O).length=L.length+O.length:=by rw[bU,qm]
  have ub:6-(L.reverse++O).length+(L.reverse++O).length=6:=Nat.sub_add_cancel l6
  refine(k1 (6-(L.reverse++O).length) _ _ ?_ ⟨L.reverse++O,_,_,pf+L.length,w4,_,w8,w9,UN,UO,UP,UQ,rfl,Yb,Wv X8 f4,UW,ub⟩).1
  refine Nat.lt_of_add_lt_add_right (n:=O.length) ?_
  rw[hn]
  refine ah (kY (m:=(L.reverse++O).length) ?_ _) (bN ub)
  exact lO▸Nat.lt_add_of_pos_left (List.length_pos_iff.mpr fo)
 ·have UX:L=[]:=by cases L with|nil=>rfl|cons _ _=>cases e
  subst UX
  have hN:∀c∈keys,∀x∈o.N c,x∈keys:=λ c z x I=>(E x).mpr (ok.nk c (p c z) x I)
  refine(?_:wSs J pg (d+4) [.ret (.tuple [.var 5,.var 6])] Q (gF o a n1 (.ref S) M (.bool q) y G l v10 v11 N u) aJ)
  refine L4 ?_
  refine k aJ O _ ⟨Ww,r.od,r.nd,kO,λ c z hO=>r.rest c ((E c).mpr z) hO,?_⟩
  rcases hq with⟨rfl,ha⟩|⟨rfl,z⟩
  ·exact⟨nofun,λ h=>absurd (λ c z=>r.UE w hN ha c ((E c).mpr z)) h⟩
  ·exact⟨λ D h=>r.Ux w z λ c z=>h c ((E c).mp z),λ D=>rfl⟩
theorem uG(H:pn J){o:Cd}(ok:iP o){n:Mem}{a:Nat}{b:Nat->Nat}(z:kU o n a b)(r:∀c,c<6->qP o n c [o.r c])(lt:∀i,BF o i->i<n.n)(k:∀σ' O q n1,Opened o n σ' O q n1->Q (.tuple [.bool q,.ref n1]) σ'):aH J (d+5) (.glob ji) [.list (mV o),.ref a,.bytes [o.m1,o.m2]] [] [] Q n:=by
 refine p9 H.hd _ _ _ ?_
 refine Iw H ok z λ L keys A e np T u I U t=> ?_
 have M:∀k,k∈keys↔k<6:=λ k=>⟨t.k6 k,λ h=>t.kd k (dU.mpr h)⟩
 have y:∀x s,(T x).count s=if s∈keys then(o.N s).count x else 0:=λ x s=>by
  rw[t.hs x s]
  by_cases h:s<6
  ·rw[aw (dU.mpr h),aw ((M s).mpr h)]
  ·rw[av λ m=>h (dU.mp m),av λ m=>h ((M s).mp m)]
 have w:∀x,(T x).length<=12:=t.sl
 have j:∀c∈keys,∀s∈T c,s∈keys:=λ x D s l=>by
  have G:=jP.mpr l
  rw[y x s]at G
  by_cases g:s∈keys
  ·exact g
  ·rw[av g]at G;exact absurd G (d0 0)
 have UR:KI o.N keys [] [] np (gb keys np):=KI.init I.nd λ c C=>(t.hn c).trans (aw (dU.mpr (t.k6 c C)))
 refine cH (v:= .bool false) aB ?_
 have fin:∀{p:Mem}{R:Nat}{q:Bool},bw (λ i=>n.n<=i) p n.n (n.n+1) keys A e np T (some (R,gb keys np)) 0 0->gm (λ i=>n.n<=i) L p->(q=false/\H6 keys T\/q=true/\Oe keys T)->
   wSs J pg (d+4) (lK.drop 4) (dg Q) (oF (.list (mV o)) (.ref a) (.bytes [o.m1,o.m2]) (.ref n.n) u (.bool q) .aF .aF .aF .aF .aF .aF .aF .aF) p:=λ{p R q} at2 f2 hq=>by
  have E:Ext n p:=⟨aa U.1 f2.1,λ i hi=>(f2.2 i (ah hi U.1) (iR.mpr hi)).trans (U.2 i hi)⟩
  refine rh (v:= .ref p.n) (σ':=p.alloc (.dict [] 0)) aB ?_
  have N:Ext n (p.alloc (.dict [] 0)):=E.qb _
  refine Iz H ok z M y w hq (at2.XU.keep (dC _) λ i hi D=>Mem.bD _ _ (az hi)) UR ⟨.kh N,⟨0,Mem.a7 _ _⟩,E.1,bF _,λ c C=>(r c C).keep N.1 λ i hi D=>N.2 i hi,lt⟩ λ σ' O B h=>k σ' O q p.n h
 refine gE ⟨rfl,⟨_,rfl⟩,?_⟩
 refine gE ?_
 refine(?_:opt (ik pg L (.ref n.n) 16) _)
 refine cX (vK I.s (by decide) rfl) ?_
 refine(?_:sr J (d+4) (.glob cw) [.ref n.n] _ _ L)
 exact BC (d:=d+2) H.hd I j (λ i hi=>aa U.1 hi) (λ σ' R h f ac=>fin h f (.inl ⟨rfl,ac⟩)) λ σ' R h f cy=>⟨rfl,fin h f (.inr ⟨rfl,cy⟩)⟩
noncomputable def C9(n f b need:Nat):Bool:=decide ((need:Int)<((6:Nat):Int))&&((((n/64%8:Nat):Int)==((7:Nat):Int))||decide ((((need+1)*f%7:Nat):Int)<(((b+1)*f%7:Nat):Int)))
noncomputable def tU(n f b:Nat):aj:=[n%8,n/8%8].filter (C9 n f b)
theorem IA(n f b:Nat):∀x∈tU n f b,x<6:=λ x I=>mF.mp (ae (ao (jN.mp I).2).1)
theorem ES(n f b:Nat):(tU n f b).length<=2:=jO _ _
theorem Ev.UZ{a b:ME}{va vb:V}{q1 q2:Bool}(z:Ev J d a B Y va)(M:b6 Y va=some q1)(U:Ev J d b B Y vb)(u:b6 Y vb=some q2):Ev J d (.Mw [a,b]) B Y (.bool (q1||q2)):=λ K k=>z _ (cX M (by
  induction q1 with
  |true=>exact k
  |false=>exact U _ (cX u (by induction q2<;>exact k))))
theorem g0(a b:Nat)(U:b≠0):mn Y .Mod (.int (a:Int)) (.int (b:Int))=some (.int ((a%b:Nat):Int)):=by
 refine(?_:(if decide ((b:Int)≠0)then some ((a:Int).fmod b)else none).map V.int=_)
 rw[af (show(b:Int)≠0 from λ e=>U (Int.ofNat.inj e)),Int.fmod_eq_emod_of_nonneg _ (dE b),Int.natCast_emod]
 rfl
theorem KL{a b:Nat}(z:a<2^64)(U:b<2^64):mn Y .Mult (.int (a:Int)) (.int (b:Int))=some (.int ((a*b:Nat):Int)):=by
 refine(?_:(if small (a:Int)&&small (b:Int)then some ((a:Int)*b)else none).map V.int=_)
 refine(mh z).symm▸(mh U).symm▸?_
 rfl
theorem tV{l:aj}{i:Nat}(N:l.length<=1000)(hi:i<l.length):gA Y (.list (nums l)) (.int (i:Int))=some (.int ((l.getD i 0:Nat):Int)):=by
 refine(aw (e:=none) (af (by rw[bH];exact aa N (by decide)))).trans ((o9 _ i).trans ?_)
 rw[nums,gN,kX,jr hi]
 rfl
inductive Wz(aR:Mem)(N:Nat->aj)(nn f:V)(cs:aj)(B:ar)(σ':Mem):Prop
 |mk (k:Nat) (v3 v4 v5 v6:V) (hd:List.range k++cs=List.range 6) (hr:B=[nn,f,.ref aR.n,v3,v4,v5,v6]) (ex:Ext aR σ') (hn:σ'.n=aR.n+1+k) (ha:σ'.f aR.n= .list ((List.range k).map λ c=>V.ref (aR.n+1+c))) (hb:∀c,c<k->σ'.f (aR.n+1+c)= .list (nums (N c))):Wz aR N nn f cs B σ'
inductive WA(tT:Mem)(i:Nat)(l:aj)(p:Nat->Bool)(nn f nd v3 v4:V)(rest:aj)(B:ar)(σ':Mem):Prop
 |mk (pre:aj) (v6:V) (hp:pre++rest=l) (hr:B=[nn,f,nd,v3,v4,.ref i,v6]) (hn:σ'.n=tT.n) (hi:σ'.f i= .list (nums (pre.filter p))) (hf:∀j,j≠i->σ'.f j=tT.f j):WA tT i l p nn f nd v3 v4 rest B σ'
theorem lQ{k:Nat}{c:Nat}{cs:aj}(h:List.range k++c::cs=List.range 6):c=k/\c<6:=by
 have M:(List.range k++c::cs)[k]? =some c:=by
  rw[List.getElem?_append_right (by exact bR▸ai _),bR,Nat.sub_self]
  rfl
 have u:c<6:=dU.mp (h▸jq _ (.head _))
 have r:k<6:=by
  have:=aE List.length h
  rw[bU,bR,bR]at this
  exact this▸uJ (Nat.succ_pos _)
 rw[h,List.getElem?_range r]at M
 exact⟨(aM M).symm,u⟩
theorem xS(H:Hd J){t:Mem}{ns:aj}{f:Nat}(T:ns.length=6)(hf:f<1000)(h:∀σ',Ext t σ'->σ'.n=t.n+7->σ'.f t.n= .list ((List.range 6).map λ c=>V.ref (t.n+1+c))->(∀c,c<6->σ'.f (t.n+1+c)= .list (nums (tU (ns.getD c 0) f c)))->Q (.ref t.n) σ'):aH J (d+1) (.glob j9) [.list (nums ns),.int (f:Int)] [] [] Q t:=by
 refine q9 H _ _ ?_
 have OF:ns.length<=1000:=T▸by decide
 refine rh (v:= .ref t.n) (σ':=t.alloc (.list [])) aB ?_
 refine(?_:wSs J pg d _ (dg Q) [.list (nums ns),.int (f:Int),.ref t.n,.aF,.aF,.aF,.aF] (t.alloc (.list [])))
 refine lM (λ x:Nat=>V.int (x:Int)) (vi:= .it false (nums (List.range 6))) (l:=List.range 6) (Ev.range (n:=6) rfl aB (by decide)) rfl (Wz t (λ c=>tU (ns.getD c 0) f c) (.list (nums ns)) (.int (f:Int))) ⟨0,.aF,.aF,.aF,.aF,rfl,rfl,.alloc _ _,rfl,Mem.a7 _ _,λ c C=>nomatch C⟩ (λ D D D D=>trivial) ?_ ?_
 ·rintro c cs B L K ⟨k,v3,U,I,o,hd,rfl,ex,w,z,N⟩ kk
  obtain⟨rfl,C⟩:=lQ hd
  obtain⟨n,E⟩:∃n,ns.getD c 0=n:=⟨_,rfl⟩
  have u:∀{U I o:V}{Y:Mem},Ev J d (.sub (.var 0) (.var 3)) [.list (nums ns),.int (f:Int),.ref t.n,.int (c:Int),U,I,o] Y (.int (n:Int)):=Ev.sub (va:= .list (nums ns)) (vb:= .int (c:Int)) aB aB (E▸tV OF (T▸C))
  refine(?_:wSs J pg d _ K [.list (nums ns),.int (f:Int),.ref t.n,.int (c:Int),U,I,o] L)
  refine cH (v:= .bool (((n/64%8:Nat):Int)==((7:Nat):Int))) (Ev.cmp (va:= .int ((n/64%8:Nat):Int)) (vb:= .int ((7:Nat):Int)) (Ev.bin (va:= .int ((n/64:Nat):Int)) (vb:= .int ((8:Nat):Int)) (Ev.bin (vb:= .int ((64:Nat):Int)) u aB (mi n 64 (by decide) (by decide))) aB (g0 _ 8 (by decide))) aB rfl) ?_
  refine rh (v:= .ref L.n) (σ':=L.alloc (.list [])) aB ?_
  obtain⟨r,A⟩:∃r,(((n/64%8:Nat):Int)==((7:Nat):Int))=r:=⟨_,rfl⟩
  refine A.symm▸?_
  refine(?_:wSs J pg d _ K [.list (nums ns),.int (f:Int),.ref t.n,.int (c:Int),.bool r,.ref L.n,o] (L.alloc (.list [])))
  refine lM (λ x:Nat=>V.int (x:Int)) (vi:= .tuple (nums [n%8,n/8%8])) (l:=[n%8,n/8%8]) (g:=λ D=>True) (λ K k=> ?_) rfl (WA (L.alloc (.list [])) L.n [n%8,n/8%8] (C9 n f c) (.list (nums ns)) (.int (f:Int)) (.ref t.n) (.int (c:Int)) (.bool r)) ⟨[],o,rfl,rfl,rfl,Mem.a7 _ _,λ D D=>rfl⟩ (λ D D D D=>trivial) ?_ ?_
  ·have key:gD J d [.bin .Mod (.sub (.var 0) (.var 3)) (.lit (.int 8)),.bin .Mod (.bin .FloorDiv (.sub (.var 0) (.var 3)) (.lit (.int 8))) (.lit (.int 8))] [.list (nums ns),.int (f:Int),.ref t.n,.int (c:Int),.bool r,.ref L.n,o] (L.alloc (.list [])) (nums [n%8,n/8%8]):=gD.cons rfl (Ev.bin (vb:= .int ((8:Nat):Int)) u aB (g0 _ 8 (by decide))) (gD.one rfl (Ev.bin (va:= .int ((n/8:Nat):Int)) (vb:= .int ((8:Nat):Int)) (Ev.bin (vb:= .int ((8:Nat):Int)) u aB (mi n 8 (by decide) (by decide))) aB (g0 _ 8 (by decide))))
   exact key _ k
  ·rintro x rest B p K' ⟨pre,o,hp,rfl,m,b,M⟩ Ot
   have Yc:x<8:=by
    have:x∈[n%8,n/8%8]:=hp▸jq _ (.head _)
    rcases bg.mp this with rfl|this
    ·exact eA _ (by decide)
    ·exact cR.mp this▸eA _ (by decide)
   have TG:pre.length<=2:=by
    have:=aE List.length hp
    rw[bU]at this
    exact aa (au _ _) (bN this)
   have md:∀{y:Nat}{e:ME}{B:ar}{Y:Mem},y<8->Ev J d e B Y (.int (y:Int))->Ev J d (.var 1) B Y (.int (f:Int))->Ev J d (.bin .Mod (.bin .Mult (.bin .Add e (.lit (.int 1))) (.var 1)) (.lit (.int 7))) B Y (.int (((y+1)*f%7:Nat):Int)):=λ{y e B Y} hy he h1=>Ev.bin (va:= .int (((y+1)*f:Nat):Int)) (vb:= .int ((7:Nat):Int)) (Ev.bin (va:= .int ((y+1:Nat):Int)) (Ev.bin (vb:= .int ((1:Nat):Int)) he aB rfl) h1 (KL (ah (Nat.succ_lt_succ hy) (by decide)) (ah hf (by decide)))) aB (g0 _ 7 (by decide))
   refine(?_:wSs J pg d _ K' [.list (nums ns),.int (f:Int),.ref t.n,.int (c:Int),.bool r,.ref L.n,.int (x:Int)] p)
   refine qa (C9 n f c x) (by
    delta C9
    rw[A]
    exact Ev.zD (Ev.cmp (va:= .int (x:Int)) (vb:= .int ((6:Nat):Int)) aB aB rfl) rfl (Ev.UZ (va:= .bool r) aB rfl (Ev.cmp (md Yc aB aB) (md (ah C (by decide)) aB aB) rfl) rfl) rfl) (λ e=> ?_) (λ e=> ?_)
   ·refine dB (a:=L.n) (v:= .int (x:Int)) aB b (by rw[bH];exact aa (jO _ _) (aa TG (by decide))) aB (eO ?_)
    rw[jM]
    refine(Ot _ _ ?_).1
    refine⟨pre++[x],_,(cj _ [x] _).trans hp,rfl,m,(Mem.aO _ _ _).trans ?_,λ j s=>(Mem.dS _ _ s).trans (M j s)⟩
    rw[List.filter_append,kZ,aw e]
    rfl
   ·refine eO (Ot _ _ ⟨pre++[x],_,(cj _ [x] _).trans hp,rfl,m,b.trans ?_,M⟩).1
    rw[List.filter_append,kZ,av (by rw[e];nofun)]
    exact aE (λ l=>O.list (nums l)) (d1 _).symm
  ·rintro B p ⟨pre,XT,hp,rfl,m,b,M⟩
   have hp:pre=_:=(d1 _).symm.trans hp
   subst hp
   have n1:p.n=L.n+1:=m
   have Yd:t.n≠L.n:=λ e=>d0 t.n (ah (ah (bF _) (au _ c)) (bN (w.symm.trans e.symm)))
   have old:∀{j:Nat},j≠L.n->p.f j=L.f j:=λ s=>(M _ s).trans (Mem.bD _ _ s)
   have t8:((List.range c).map λ c=>V.ref (t.n+1+c)).length<=100000:=by
    rw[aX,bR]
    exact aa (dG C) (by decide)
   refine dB (a:=t.n) (v:= .ref L.n) aB ((old Yd).trans z) t8 (gD.one rfl aB) ?_
   have e1:List.range (c+1)=List.range c++[c]:=List.range_succ
   refine(kk _ _ ?_).1
   refine⟨c+1,_,_,_,_,by rw[e1,cj];exact hd,rfl,(?_:Ext t p).set (ai _) _,n1.trans (aE (·+1) w),(Mem.aO _ _ _).trans ?_,λ G nO=>a8 (Nat.ne_of_gt (ah (bF _) (au _ G))) ?_⟩
   ·exact⟨n1▸aa ex.1 (dC _),λ i hi=>(old (az (ah hi ex.1))).trans (ex.2 i hi)⟩
   ·refine e1.symm▸fj.symm▸w.symm▸?_
    rfl
   ·by_cases e:G=c
    ·rw[e,<-w,b,E]
     rfl
    ·have fJ:G<c:=x9 (t9 nO) e
     exact(old (λ q=>e (Nat.add_left_cancel (q.trans w)))).trans (N G fJ)
 ·rintro B σ' ⟨k,v3,U,I,o,hd,rfl,ex,w,z,N⟩
  have hk:k=6:=by
   have:=aE List.length hd
   rw[bU,bR,bR]at this
   exact this
  subst hk
  exact h σ' ex w z N
noncomputable abbrev vec(f:Nat->Nat):aj:=(List.range 6).map f
theorem ml{f g:Nat->Nat}(h:∀m,m<6->f m=g m):vec f=vec g:=ql λ m hm=>h m (dU.mp hm)
theorem KN(f:Nat->Nat)(y:Nat):∀k:Nat,k<6->(nums (vec f)).set k (.int (y:Int))=nums (vec (upd f k y))
 |0,_=>rfl
 |1,_=>rfl
 |2,_=>rfl
 |3,_=>rfl
 |4,_=>rfl
 |5,_=>rfl
 |_+6,h=>absurd h (aC (lg _ _))
theorem BJ(f:Nat->Nat){k:Nat}(h:k<6):idx (nums (vec f)) (k:Int)=some (.int ((f k:Nat):Int)):=by
 rw[o9,nums,gN,gN,List.getElem?_range h]
 rfl
theorem rN(f:Nat->Nat):(nums (vec f)).length=6:=by rw[bH,aX,bR]
noncomputable def part(N:Nat->aj)(a:Nat->Nat)(k m:Nat):Nat:=((List.range k).map λ j=>a j*(N j).count m).sum
theorem hY(N:Nat->aj)(a:Nat->Nat)(k m:Nat):part N a (k+1) m=part N a k m+a k*(N k).count m:=by
 delta part
 rw[List.range_succ,fj,List.sum_append]
 rfl
noncomputable def wy(N:Nat->aj)(c:Nat):Nat->Nat->Nat
 |0=>λ m=>if m=c then 1 else 0
 |t+1=>part N (wy N c t) 6
noncomputable def iL(N:Nat->aj)(c t m:Nat):Nat:=((List.range t).map λ i=>wy N c i m).sum
theorem lR(N:Nat->aj)(c t m:Nat):iL N c (t+1) m=iL N c t m+wy N c t m:=by
 delta iL
 rw[List.range_succ,fj,List.sum_append]
 rfl
inductive Dc(Y:Mem)(v:V)(f:Nat->Nat):Prop
 |val (h:v= .list (nums (vec f))):Dc Y v f
 |ref (i:Nat) (h:v= .ref i) (hi:Y.f i= .list (nums (vec f))):Dc Y v f
theorem Dc.keep{Y σ':Mem}{v:V}{f:Nat->Nat}(h:Dc Y v f)(H:∀i,v= .ref i->σ'.f i=Y.f i):Dc σ' v f:=by
 induction h with
 |val h=>exact .val h
 |ref i h hi=>exact .ref i h ((H i h).trans hi)
theorem xT{i:Nat}{vs:ar}{k:Int}(h:Y.f i= .list vs)(N:vs.length<=1000000):gA Y (.ref i) (.int k)=idx vs k:=by
 refine(?_:(match Y.f i with| .list vs=>if decide (vs.length<=1000000)then idx vs k else none| .dict bC _=>_|_=>none)=_)
 exact h▸aw (af N)
theorem Dc.sub{v:V}{f:Nat->Nat}(h:Dc Y v f){k:Nat}(H:k<6):gA Y v (.int (k:Int))=some (.int ((f k:Nat):Int)):=by
 have N:(nums (vec f)).length<=1000000:=by rw[rN];decide
 induction h with
 |val h=>subst h;exact(aw (e:=none) (af N)).trans (BJ f H)
 |ref i h hi=>subst h;exact(xT hi N).trans (BJ f H)
theorem Dc.sum{v:V}{f:Nat->Nat}(h:Dc Y v f):dY Y (.bi .sum) [v]=some (.int (((vec f).sum:Nat):Int),Y):=by
 have N:(vec f).length<=100000:=by rw[aX,bR];decide
 induction h with
 |val h=>subst h;exact N8 N
 |ref i h hi=>
  subst h
  refine Eq.trans ?_ (N8 N)
  refine(?_:(match(Y.f i).fq with|some vs=>_|none=>none)=_)
  refine hi.symm▸?_
  rfl
theorem Rv{a:ME}{es:List ME}{Q:ar->Mem->Prop}(M:a.isStar=false)(h:wE J pg d a (λ v Y=>wEs J pg d es (λ ws Y=>Q (v::ws) Y) B Y) B Y):wEs J pg d (a::es) Q B Y:=by
 cases a with
 |star a=>exact nf M.symm
 |_=>exact h
theorem Dd{o i e:ME}{r:List MS}{Q:Fl->ar->Mem->Prop}{a k x:Nat}{f:Nat->Nat}(E:Ev J d o B Y (.ref a))(hi:Ev J d i B Y (.int (k:Int)))(H:k<6)(z:Y.f a= .list (nums (vec f)))(he:Ev J d e B Y (.int (x:Int)))(h:wSs J pg d r Q B (Y.set a (.list (nums (vec (upd f k (f k+x))))))):wSs J pg d (.m7 o i .Add e::r) Q B Y:=E _ (hi _ (cX ((xT z (by rw[rN];decide)).trans (BJ f H)) (he _ (by
  have L:jd Y (.ref a) (.int (k:Int)) (.int ((f k+x:Nat):Int))=some λ D=>Y.set a (.list (nums (vec (upd f k (f k+x))))):=by
   refine(aE (ot Y a (k:Int) (.int ((f k+x:Nat):Int))) z).trans ?_
   refine(aw (kS (kS (af (dE k)) (af (mF.mpr (by rw[rN];exact H)))) (af (by rw[rN];decide)))).trans ?_
   refine(KN f (f k+x) k H)▸?_
   rfl
  refine(?_:opt (jd Y (.ref a) (.int (k:Int)) (.int ((f k+x:Nat):Int))) _)
  exact cX L λ D=>h))))
theorem Mf{a b:ME}{K:eY}(z:Ev J d a B Y (.list [.int 0]))(U:Ev J d b B Y (.int 6))(k:K (.ref Y.n) (Y.alloc (.list (nums (vec λ D=>0))))):wE J pg d (.mulM a b) K B Y:=z _ (U _ k)
noncomputable abbrev wF(C:V)(c:Nat)(v2:V)(T:Nat)(x I i G:V):ar:=[C,.int (c:Int),v2,.ref T,x,I,i,G]
inductive WN(tT:Mem)(N:Nat->aj)(a:Nat->Nat)(k g:Nat)(nd:V)(c T:Nat)(ly v5:V)(rest:aj)(B:ar)(σ':Mem):Prop
 |mk (pre:aj) (v7:V) (hp:pre++rest=N k) (hr:B=wF nd c (.int (k:Int)) T ly v5 (.ref g) v7) (hg:σ'.f g= .list (nums (vec λ m=>part N a k m+a k*pre.count m))) (hn:σ'.n=tT.n) (hf:∀j,j≠g->σ'.f j=tT.f j):WN tT N a k g nd c T ly v5 rest B σ'
inductive WK(tT:Mem)(N:Nat->aj)(a tt:Nat->Nat)(g:Nat)(nd:V)(c T:Nat)(ly v5:V)(cs:aj)(B:ar)(σ':Mem):Prop
 |mk (k:Nat) (v2 v7:V) (hd:List.range k++cs=List.range 6) (hr:B=wF nd c v2 T ly v5 (.ref g) v7) (hT:σ'.f T= .list (nums (vec λ m=>if m<k then tt m+a m else tt m))) (hg:σ'.f g= .list (nums (vec (part N a k)))) (hn:σ'.n=tT.n) (hf:∀j,j≠T->j≠g->σ'.f j=tT.f j):WK tT N a tt g nd c T ly v5 cs B σ'
inductive WO(aR:Mem)(N:Nat->aj)(nd:V)(c:Nat)(cs:aj)(B:ar)(σ':Mem):Prop
 |mk (t:Nat) (ly v2 v5 v6 v7:V) (hd:List.range t++cs=List.range 6) (hr:B=wF nd c v2 aR.n ly v5 v6 v7) (ex:Ext aR σ') (hn:aR.n<σ'.n) (hT:σ'.f aR.n= .list (nums (vec (iL N c t)))) (hl:Dc σ' ly (wy N c t)) (hu:ly≠.aF) (fo:∀i,ly= .ref i->i≠aR.n/\i<σ'.n):WO aR N nd c cs B σ'
theorem ET(l:aj)(x m:Nat):(l++[x]).count m=l.count m+if m=x then 1 else 0:=by
 rw[List.count_append]
 by_cases e:m=x
 ·rw[aw e,e,List.count_singleton_self]
 ·exact(av e).symm▸(i8.mpr λ h=>e (cR.mp h)).symm▸rfl
theorem zW(H:Hd J){r:Mem}{o:Cd}{a c:Nat}{b:Nat->Nat}(nd:kU o r a b)(nk:∀c,c<6->∀x∈o.N c,x<6)(nl:∀c,(o.N c).length<=2)(h:∀σ',Ext r σ'->σ'.f r.n= .list (nums (vec (iL o.N c 6)))->r.n<σ'.n->Q (.tuple [.ref r.n,.bool (decide (0<(vec (wy o.N c 6)).sum))]) σ'):aH J (d+1) (.glob lJ) [.ref a,.int (c:Int)] [] [] Q r:=by
 refine tB H _ _ ?_
 refine unpack_ ?_
 have key:∀K:eY,K (.tuple [.ref r.n,.list (nums (vec (wy o.N c 0)))]) (r.alloc (.list (nums (vec λ D=>0))))->wE J pg d (.tuple [.mulM (.list false [.lit (.int 0)]) (.lit (.int 6)),.comp false (.EZ (.cmp .Eq (.var 2) (.var 1)) (.lit (.int 1)) (.lit (.int 0))) [2] (.range 17 [.lit (.int 6)]) []]) K [.ref a,.int (c:Int),.aF,.aF,.aF,.aF,.aF,.aF] r:=λ K k=>by
  have inner:wEs J pg d [.mulM (.list false [.lit (.int 0)]) (.lit (.int 6)),.comp false (.EZ (.cmp .Eq (.var 2) (.var 1)) (.lit (.int 1)) (.lit (.int 0))) [2] (.range 17 [.lit (.int 6)]) []] (λ vs Y=>K (.tuple vs) Y) [.ref a,.int (c:Int),.aF,.aF,.aF,.aF,.aF,.aF] r:=by
   refine Rv rfl (Mf aB aB (Rv rfl ?_))
   refine qL (λ o:Nat=>V.int (o:Int)) (l:=List.range 6) (vi:= .it false (nums (List.range 6))) (g:=λ D=>True) (Ev.range (n:=6) rfl aB (by decide)) rfl (λ m=> .int ((if m=c then 1 else 0:Nat):Int)) trivial (λ m D K' E=> ?_) (by refine bR.symm▸?_;decide) (by
    refine(show(List.range 6).map (λ m=>V.int ((if m=c then 1 else 0:Nat):Int))=nums (vec (wy o.N c 0)) by rw[nums,fN];rfl).symm▸?_
    exact k)
   refine QO (v:= .bool (((m:Int))==((c:Int)))) (Ev.cmp (va:= .int (m:Int)) (vb:= .int (c:Int)) aB aB rfl) rfl (λ e=> ?_) (λ e=> ?_)
   ·rw[aw (QM e)]at E
    exact E
   ·rw[av (NS e)]at E
    exact E
  exact inner
 refine key _ ⟨rfl,?_⟩
 refine(?_:wSs J pg d _ (dg Q) (wF (.ref a) c .aF r.n (.list (nums (vec (wy o.N c 0)))) .aF .aF .aF) (r.alloc (.list (nums (vec λ D=>0)))))
 refine lM (λ x:Nat=>V.int (x:Int)) (vi:= .it false (nums (List.range 6))) (l:=List.range 6) (Ev.range (n:=6) rfl aB (by decide)) rfl (WO r o.N (.ref a) c) ⟨0,_,.aF,.aF,.aF,.aF,rfl,rfl,.alloc _ _,bF _,Mem.a7 _ _,.val rfl,nofun,nofun⟩ (λ D D D D=>trivial) ?_ ?_
 ·rintro t cs B L K ⟨t',U,v2,v5,v6,G,hd,rfl,ex,w,hT,C,hu,M⟩ kk
  obtain⟨rfl,D⟩:=lQ hd
  have gT:r.n≠L.n:=az w
  refine(?_:wSs J pg d _ K (wF (.ref a) c v2 r.n U (.int (t:Int)) v6 G) L)
  refine km (Mf aB aB ?_)
  refine(?_:wSs J pg d _ K (wF (.ref a) c v2 r.n U (.int (t:Int)) (.ref L.n) G) (L.alloc (.list (nums (vec λ D=>0)))))
  obtain⟨A,hA⟩:∃A,wy o.N c t=A:=⟨_,rfl⟩
  rw[hA]at C
  refine lM (λ x:Nat=>V.int (x:Int)) (vi:= .it false (nums (List.range 6))) (l:=List.range 6) (Ev.range (n:=6) rfl aB (by decide)) rfl (WK (L.alloc (.list (nums (vec λ D=>0)))) o.N A (iL o.N c t) L.n (.ref a) c r.n U (.int (t:Int))) ⟨0,v2,G,rfl,rfl,(Mem.bD _ _ gT).trans hT,(Mem.a7 _ _).trans rfl,rfl,λ D D D=>rfl⟩ (λ D D D D=>trivial) ?_ ?_
  ·rintro k WC B p K' ⟨E,v2,G,pj,rfl,R1,U0,Ds,T⟩ Ot
   obtain⟨rfl,y⟩:=lQ pj
   have t8:Dc p U A:=C.keep λ i hi=>(T i (M i hi).1 (az (M i hi).2)).trans (Mem.bD _ _ (az (M i hi).2))
   have WD:∀{σ':Mem},(∀j,j≠r.n->j≠L.n->σ'.f j=(L.alloc (.list (nums (vec λ D=>0)))).f j)->σ'.f (b k)= .list (nums (o.N k)):=λ s=>by
    have hb:=(nd.lb k y).1
    exact(s _ (az hb) (az (gQ hb w))).trans ((Mem.bD _ _ (az (gQ hb w))).trans ((ex.2 _ hb).trans (nd.hb k y)))
   have WE:∀{σ':Mem}{v2 G:V},Dc σ' U A->Ev J d (.sub (.var 4) (.var 2)) (wF (.ref a) c (.int (k:Int)) r.n U (.int (t:Int)) (.ref L.n) G) σ' (.int ((A k:Nat):Int)):=λ ie=>Ev.sub (va:=U) (vb:= .int (k:Int)) (HE rfl hu) aB (ie.sub y)
   refine(?_:wSs J pg d _ K' (wF (.ref a) c (.int (k:Int)) r.n U (.int (t:Int)) (.ref L.n) G) p)
   refine Dd (a:=r.n) (k:=k) (x:=A k) aB aB y R1 (WE (v2:=v2) t8) ?_
   have Mg:gA (p.set r.n (.list (nums (vec (upd (λ m=>if m<k then iL o.N c t m+A m else iL o.N c t m) k ((λ m=>if m<k then iL o.N c t m+A m else iL o.N c t m) k+A k)))))) (.ref a) (.int (k:Int))=some (.ref (b k)):=by
    have ha:=nd.la.1
    have e1:(p.set r.n (.list (nums (vec (upd (λ m=>if m<k then iL o.N c t m+A m else iL o.N c t m) k ((λ m=>if m<k then iL o.N c t m+A m else iL o.N c t m) k+A k)))))).f a= .list ((List.range 6).map λ c=>V.ref (b c)):=(Mem.dS _ _ (az ha)).trans ((T _ (az ha) (az (gQ ha w))).trans ((Mem.bD _ _ (az (gQ ha w))).trans ((ex.2 _ ha).trans nd.ha)))
    refine(xT e1 (by rw[aX,bR];decide)).trans ((o9 _ k).trans ?_)
    refine(gN).symm▸(List.getElem?_range y).symm▸?_
    rfl
   obtain⟨I,tW⟩:∃I,p.set r.n (.list (nums (vec (upd (λ m=>if m<k then iL o.N c t m+A m else iL o.N c t m) k ((λ m=>if m<k then iL o.N c t m+A m else iL o.N c t m) k+A k)))))=I:=⟨_,rfl⟩
   have Ye:I.f r.n= .list (nums (vec λ m=>if m<k+1 then iL o.N c t m+A m else iL o.N c t m)):=by
    refine tW▸?_
    refine(Mem.aO _ _ _).trans (aE (λ l=>O.list (nums l)) (ml λ m D=> ?_))
    by_cases e:m=k
    ·rw[e,bo,aw (bF k)]
     exact aE (·+A k) (av (d0 k))
    ·refine(bT _ _ e).symm▸?_
     by_cases q:m<k
     ·exact(aw q).symm▸(aw (gO q)).symm▸rfl
     ·exact(av q).symm▸(av λ z=>(Nat.lt_or_eq_of_le (t9 z)).elim q e).symm▸rfl
   have Yg:I.f L.n= .list (nums (vec (part o.N A k))):=by exact tW▸(Mem.dS _ _ gT.symm).trans U0
   have Yh:I.n=L.n+1:=by exact tW▸Ds
   have Se:∀j,j≠r.n->j≠L.n->I.f j=(L.alloc (.list (nums (vec λ D=>0)))).f j:=λ j N u=>by exact tW▸(Mem.dS _ _ N).trans (T j N u)
   rw[tW]at Mg⊢
   refine lM (λ x:Nat=>V.int (x:Int)) (vi:= .ref (b k)) (l:=o.N k) (Ev.sub (va:= .ref a) (vb:= .int (k:Int)) aB aB Mg) (aE (sv (b k)) (WD Se)) (WN I o.N A k L.n (.ref a) c r.n U (.int (t:Int))) ⟨[],G,rfl,rfl,Yg,rfl,λ D D=>rfl⟩ ?_ ?_ ?_
   ·rintro rest B σ' ⟨pre,G,D,D,D,D,s⟩
    exact WD λ j N u=>(s j u).trans (Se j N u)
   ·rintro x rest B σ' Yi ⟨pre,G,hp,rfl,hg,OS,s⟩ U1
    have hx:x<6:=nk k y x (hp▸jq _ (.head _))
    have ie:Dc σ' U A:=C.keep λ i hi=>(s i (az (M i hi).2)).trans ((Se i (M i hi).1 (az (M i hi).2)).trans (Mem.bD _ _ (az (M i hi).2)))
    refine(?_:wSs J pg d _ Yi (wF (.ref a) c (.int (k:Int)) r.n U (.int (t:Int)) (.ref L.n) (.int (x:Int))) σ')
    refine Dd (a:=L.n) (k:=x) (x:=A k) aB aB hx hg (WE (v2:=v2) ie) ?_
    refine(U1 _ _ ?_).1
    refine⟨pre++[x],_,(cj _ [x] _).trans hp,rfl,(Mem.aO _ _ _).trans (aE (λ l=>O.list (nums l)) (ml λ m D=> ?_)),OS,λ j hj=>(Mem.dS _ _ hj).trans (s j hj)⟩
    rw[ET]
    by_cases e:m=x
    ·rw[e,bo,aw rfl,Nat.mul_succ,gp]
    ·refine(bT _ _ e).symm▸(av e).symm▸?_
     rfl
   ·rintro B σ' ⟨pre,G,hp,rfl,hg,OS,s⟩
    have hp:pre=o.N k:=(d1 _).symm.trans hp
    subst hp
    refine(Ot _ _ ⟨k+1,_,G,by rw[List.range_succ,cj];exact pj,rfl,(s _ gT).trans Ye,hg.trans (aE (λ l=>O.list (nums l)) (ml λ m D=>(hY o.N A k m).symm)),OS.trans Yh,λ j N u=>(s j u).trans (Se j N u)⟩).1
  ·rintro B p ⟨k,v2,G,pj,rfl,R1,U0,Ds,T⟩
   have hk:k=6:=by
    have:=aE List.length pj
    rw[bU,bR,bR]at this
    exact this
   subst hk
   have n2:p.n=L.n+1:=Ds
   refine cH (v:= .ref L.n) aB ?_
   refine(kk _ _ ⟨t+1,.ref L.n,v2,_,_,G,by rw[List.range_succ,cj];exact hd,rfl,⟨n2▸aa ex.1 (dC _),λ i hi=> ?_⟩,n2▸gO w,R1.trans (aE (λ l=>O.list (nums l)) (ml λ m hm=> ?_)),.ref L.n rfl (U0.trans ?_),nofun,λ i hi=> ?_⟩).1
   ·have N:=az hi
    have u:=az (gQ hi w)
    exact(T i N u).trans ((Mem.bD _ _ u).trans (ex.2 i hi))
   ·refine(aw hm).symm▸hA▸?_
    exact(lR o.N c t m).symm
   ·refine hA▸?_
    rfl
   ·cases hi
    exact⟨gT.symm,n2▸bF _⟩
 ·rintro B L ⟨t,U,v2,v5,v6,G,hd,rfl,ex,w,hT,C,hu,M⟩
  have ht:t=6:=by
   have:=aE List.length hd
   rw[bU,bR,bR]at this
   exact this
  subst ht
  refine L4 ?_
  refine xK (vs:=[.ref r.n,.bool (decide ((0:Int)<(((vec (wy o.N c 6)).sum:Nat):Int)))]) (gD.cons rfl aB (gD.one rfl (Ev.cmp (va:= .int (((vec (wy o.N c 6)).sum:Nat):Int)) (vb:= .int 0) (ka (b:= .bi .sum) aB rfl (gD.one rfl (HE rfl hu)) C.sum) aB rfl))) ?_
  have e:decide ((0:Int)<(((vec (wy o.N c 6)).sum:Nat):Int))=decide (0<(vec (wy o.N c 6)).sum):=rM mF
  exact e▸h L ex hT w
theorem EU(N:Nat->aj)(k m:Nat):part N (λ D=>0) k m=0:=by
 induction k with
 |zero=>rfl
 |succ k y=>rw[hY,y,Nat.zero_mul]
theorem IB(N:Nat->aj)(a b:Nat->Nat)(k m:Nat):part N (λ j=>a j+b j) k m=part N a k m+part N b k m:=by
 induction k with
 |zero=>rfl
 |succ k y=>rw[hY,hY,hY,y,Nat.add_mul,Nat.add_add_add_comm]
theorem IC(N:Nat->aj)(a:Nat->Nat->Nat)(k m:Nat)(l:aj):part N (λ j=>(l.map λ x=>a x j).sum) k m=(l.map λ x=>part N (a x) k m).sum:=by
 induction l with
 |nil=>exact EU N k m
 |cons x l y=>exact(IB N (a x) (λ j=>(l.map λ x=>a x j).sum) k m).trans (aE (part N (a x) k m+·) y)
theorem ID(N:Nat->aj)(c k m:Nat):part N (λ j=>if j=c then 1 else 0) k m=if c<k then(N c).count m else 0:=by
 induction k with
 |zero=>exact(av (Nat.not_lt_zero c)).symm
 |succ k y=>
  rw[hY,y]
  by_cases e:k=c
  ·subst e
   rw[aw rfl,av (d0 k),aw (bF k),Nat.one_mul,gM]
  ·rw[av e,Nat.zero_mul,Nat.add_zero]
   by_cases q:c<k
   ·exact(aw q).symm▸(aw (gO q)).symm▸rfl
   ·exact(av q).symm▸(av λ z=>(Nat.lt_or_eq_of_le (t9 z)).elim q λ z=>e z.symm).symm▸rfl
theorem EV(l:aj)(m:Nat):(l.map λ x=>if m=x then 1 else 0).sum=l.count m:=by
 induction l with
 |nil=>rfl
 |cons x l y=>
  rw[List.count_cons,gu,List.sum_cons,y,ff]
  by_cases e:m=x
  ·exact e.symm▸(aw rfl).symm▸(aw (hZ x)).symm▸rfl
  ·rw[av e,av (by rw[fS (Ne.symm e)];nofun)]
theorem pe(N:Nat->aj){c:Nat}(C:c<6):∀t m:Nat,wy N c (t+1) m=((N c).map λ x=>wy N x t m).sum
 |0,m=>((ID N c 6 m).trans (aw C)).trans (EV (N c) m).symm
 |t+1,m=>by
  refine(?_:part N (wy N c (t+1)) 6 m=_)
  exact(show wy N c (t+1)=λ j=>((N c).map λ x=>wy N x t j).sum from funext λ j=>pe N C t j)▸IC N (λ x=>wy N x t) 6 m (N c)
theorem tX{l:aj}{f:Nat->Nat}(h:∀x∈l,f x=0):(l.map f).sum=0:=by
 induction l with
 |nil=>rfl
 |cons x l g=>rw[gu,List.sum_cons,h x (.head _),g λ y j=>h y (.tail _ j)]
theorem zX{l:aj}{f:Nat->Nat}{x:Nat}(I:x∈l)(h:0<f x):0<(l.map f).sum:=by
 induction I with
 |head l=>exact ah h (au _ _)
 |tail y _ g=>exact ah g (lg _ _)
theorem xU{N:Nat->aj}:∀{q:aj},Ord N q->(∀c∈q,c<6)->∀c∈q,∀t,q.length<=t->∀m,wy N c t m=0
 |v::q,⟨M,L⟩,H,c,C,t,u,m=>by
  have y:=xU L λ x I=>H x (.tail _ I)
  induction t with
  |zero=>exact absurd u (Nat.not_succ_le_zero _)
  |succ t=>
   have u:q.length<=t:=Nat.le_of_succ_le_succ u
   rcases bg.mp C with e|e
   ·rw[pe N (H c C)]
    exact tX λ x I=>y x (M x (e▸I)) t u m
   ·exact y c e (t+1) (qp u) m
theorem De{N:Nat->aj}{O:aj}(s:∀c,c<6->∀x∈N c,x<6)(h:∀c,c<6->c∉O->∃x∈N c,x∉O):∀t c,c<6->c∉O->∃m,m<6/\0<wy N c t m
 |0,c,C,_=>⟨c,C,by refine(?_:0<if c=c then 1 else 0);exact aw rfl▸Nat.one_pos⟩
 |t+1,c,C,g=>by
  obtain⟨x,I,p⟩:=h c C g
  obtain⟨m,hm,hp⟩:=De s h t x (s c C x I) p
  exact⟨m,hm,by rw[pe N C];exact zX I hp⟩
theorem zY{N:Nat->aj}{O:aj}(s:∀c,c<6->∀x∈N c,x<6)(E:Ord N O)(w:O.Nodup)(H:∀c∈O,c<6)(h:∀c,c<6->c∉O->∃x∈N c,x∉O){c:Nat}(C:c<6):decide (0<(vec (wy N c 6)).sum)= !decide (c∈O):=by
 by_cases m:c∈O
 ·refine(af m).symm▸(tX λ x D=>xU E H c m 6 (nI w H) x).symm▸?_
  rfl
 ·obtain⟨x,I,hp⟩:=De s h 6 c C m
  refine(cg m).symm▸(af (zX (dU.mpr I) hp)).symm▸?_
  rfl
theorem sum_add(f g:Nat->Nat)(l:aj):(l.map λ x=>f x+g x).sum=(l.map f).sum+(l.map g).sum:=by
 induction l with
 |nil=>rfl
 |cons x l y=>rw[gu,List.sum_cons,gu,List.sum_cons,gu,List.sum_cons,y,Nat.add_add_add_comm]
theorem vQ(N:Nat->aj){c:Nat}(C:c<6)(m:Nat):∀t:Nat,iL N c (t+1) m=(if m=c then 1 else 0)+((N c).map λ x=>iL N x t m).sum
 |0=>by
  rw[lR,tX λ x D=>show iL N x 0 m=0 from rfl]
  exact gM _
 |t+1=>by
  rw[lR,vQ N C m t,pe N C t m,gp,<-sum_add]
  exact aE (λ f:Nat->Nat=>(if m=c then 1 else 0)+((N c).map f).sum) (funext λ x=>(lR N x t m).symm)
noncomputable def ku(r:Nat->Nat)(v:Nat->Nat)(k:Nat):Nat:=if v k%2=1 then r k else 0
noncomputable def zZ(r:Nat->Nat)(v:Nat->Nat):Nat:=xs ((List.range 6).map (ku r v))
theorem IE(l:aj)(y:Nat):xs (l++[y])=xs l^^^y:=by
 induction l with
 |nil=>exact Nat.xor_comm y 0
 |cons x l g=>exact(aE (x^^^·) g).trans (Nat.xor_assoc _ _ _).symm
theorem Df{r v:Nat->Nat}{k x:Nat}(h:v k=x):ku r v k=if x%2=1 then r k else 0:=by skip;exact h.symm▸rfl
theorem IF(r a b:Nat->Nat)(k:Nat):ku r (λ j=>a j+b j) k=ku r a k^^^ku r b k:=by
 delta ku
 dsimp only
 rw[Nat.add_mod]
 rcases Nat.mod_two_eq_zero_or_one (a k)with p|p<;>rcases Nat.mod_two_eq_zero_or_one (b k)with q|q<;>refine p.symm▸q.symm▸?_
 ·exact(Nat.xor_self 0).symm
 ·exact(Nat.zero_xor _).symm
 ·exact(Nat.xor_zero _).symm
 ·exact(Nat.xor_self _).symm
theorem Ou(f g:Nat->Nat)(l:aj):xs (l.map λ x=>f x^^^g x)=xs (l.map f)^^^xs (l.map g):=by
 induction l with
 |nil=>exact(Nat.xor_self 0).symm
 |cons x l y=>
  refine(?_:(f x^^^g x)^^^xs (l.map λ x=>f x^^^g x)=(f x^^^xs (l.map f))^^^(g x^^^xs (l.map g)))
  rw[y,Nat.xor_assoc,Nat.xor_assoc,<-Nat.xor_assoc (g x),Nat.xor_comm (g x) (xs (l.map f)),Nat.xor_assoc]
theorem z7(r a b:Nat->Nat):zZ r (λ j=>a j+b j)=zZ r a^^^zZ r b:=(aE (λ f:Nat->Nat=>xs ((List.range 6).map f)) (funext (IF r a b))).trans (Ou _ _ _)
theorem Dg{l:aj}{f:Nat->Nat}(h:∀x∈l,f x=0):xs (l.map f)=0:=by
 induction l with
 |nil=>rfl
 |cons x l g=>exact(congr (aE HXor.hXor (h x (.head _))) (g λ y j=>h y (.tail _ j))).trans (Nat.xor_self 0)
theorem IG(r:Nat->Nat)(a:Nat->Nat->Nat)(l:aj):zZ r (λ j=>(l.map λ x=>a x j).sum)=xs (l.map λ x=>zZ r (a x)):=by
 induction l with
 |nil=>exact Dg λ x D=>rfl
 |cons x l y=>exact(z7 r (a x) (λ j=>(l.map λ x=>a x j).sum)).trans (aE (zZ r (a x)^^^·) y)
theorem Dh(r:Nat->Nat)(c:Nat):∀l:aj,l.Nodup->c∈l->xs (l.map λ k=>if k=c then r k else 0)=r c
 |k::l,w,C=>by
  have w:=fh.mp w
  refine(?_:(if k=c then r k else 0)^^^xs (l.map λ k=>if k=c then r k else 0)=r c)
  by_cases e:k=c
  ·rw[aw e,Dg λ x I=>av λ q:x=c=>w.1 ((q.trans e.symm)▸I),Nat.xor_zero,e]
  ·rw[av e,Nat.zero_xor]
   exact Dh r c l w.2 ((bg.mp C).resolve_left (Ne.symm e))
theorem IH(r:Nat->Nat)(c:Nat)(C:c<6):zZ r (λ j=>if j=c then 1 else 0)=r c:=by
 have e:∀k,ku r (λ j=>if j=c then 1 else 0) k=if k=c then r k else 0:=λ k=>by
  by_cases q:k=c
  ·exact(Df (r:=r) (v:=λ j=>if j=c then 1 else 0) (k:=k) (x:=1) (aw q)).trans (aw q).symm
  ·exact(Df (r:=r) (v:=λ j=>if j=c then 1 else 0) (k:=k) (x:=0) (av q)).trans (av q).symm
 exact(aE (λ f:Nat->Nat=>xs ((List.range 6).map f)) (funext e)).trans (Dh r c _ List.nodup_range (dU.mpr C))
noncomputable def uH(N:Nat->aj)(r:Nat->Nat)(c:Nat):Nat:=zZ r (iL N c 6)
theorem II{N:Nat->aj}{r:Nat->Nat}{c:Nat}{q:aj}(E:Ord N (c::q))(w:(c::q).Nodup)(H:∀x∈c::q,x<6):uH N r c=xs ((N c).map (uH N r)++[r c]):=by
 have C:=H c (.head _)
 have e:iL N c 6=λ m=>(if m=c then 1 else 0)+((N c).map λ x=>iL N x 6 m).sum:=funext λ m=>by
  have u:=lR N c 6 m
  rw[xU E H c (.head _) 6 (nI w H) m,Nat.add_zero]at u
  exact u.symm.trans (vQ N C m 6)
 delta uH
 rw[IE,e,z7 r (λ m=>if m=c then 1 else 0) (λ m=>((N c).map λ x=>iL N x 6 m).sum),IH r c C,IG r (λ x=>iL N x 6),Nat.xor_comm]
theorem Di{N:Nat->aj}{r:Nat->Nat}(b:∀c,c<6->r c<2^24)(c:Nat):uH N r c<2^24:=Rk λ x I=>by
 obtain⟨k,H,rfl⟩:=cQ.mp I
 delta ku
 by_cases q:iL N c 6 k%2=1
 ·exact aw q▸b k (dU.mp H)
 ·exact av q▸Nat.two_pow_pos 24
noncomputable def xV:aj:=[65,66,67,68,69,70,71,72,73,74,75,76,77,78,79,80,81,82,83,84,85,86,87,88,89,90,97,98,99,100,101,102,103,104,105,106,107,108,109,110,111,112,113,114,115,116,117,118,119,120,121,122,48,49,50,51,52,53,54,55,56,57]
noncomputable abbrev kQ(m1 m2:Nat):aj:=xV++[m1,m2]
theorem KO(m1 m2:Nat){k:Nat}(h:k<64):(kQ m1 m2)[k]? =some (sw m1 m2 (bK k)):=by
 by_cases q:k<62
 ·have f:∀k:Fin 62,xV[k.val]? =some (bK k)/\bK k≠43/\bK k≠47:=by decide+kernel
  obtain⟨f1,f2,e⟩:=f ⟨k,q⟩
  refine(List.getElem?_append_left (show k<xV.length from q)).symm▸f1.symm▸?_
  delta sw
  rw[av f2,av e]
 ·obtain⟨j,rfl⟩:=Nat.exists_eq_add_of_le (Nat.le_of_not_lt q)
  match j,Nat.lt_of_add_lt_add_left (n:=62) (m:=2) h with
  |0,_=>rfl
  |1,_=>rfl
theorem IJ(m1 m2:Nat){k:Nat}(h:k<64):gA Y (.str (kQ m1 m2)) (.int (k:Int))=some (.str [sw m1 m2 (bK k)]):=by
 refine(aw (e:=none) (af (by decide:64<=1000000))).trans ?_
 rw[o9,KO m1 m2 h]
theorem join_one{α:Type}(f:α->Nat)(l:List α):dH [] (l.map λ a=>[f a])=l.map f:=by
 rw[vJ,<-List.flatMap_def,gG]
noncomputable def kR(N:Nat->aj)(c:Nat):Bool:=decide (0<(vec (wy N c 6)).sum)
theorem vR{it c:ME}{i:Nat}{K:eY}{m1 m2 n:Nat}(w:n<2^24)(hi:Ev J d it B Y (.list (nums (dq n))))(A:∀k:Nat,Ev J d c (B.set i (.int (k:Int))) Y (.str (kQ m1 m2)))(s:∀k:Nat,Ev J d (.var i) (B.set i (.int (k:Int))) Y (.int (k:Int)))(k:K (.str (tx m1 m2 n)) Y):wE J pg d (.aY (.lit (.str [])) 7 [.comp false (.sub c (.var i)) [i] it []]) K B Y:=by
 refine jL (v:= .str []) (x:=(.bm .kD,[.str []])) aB rfl ?_
 refine(?_:wE J pg d (.comp false (.sub c (.var i)) [i] it []) _ _ _)
 refine qL (λ k:Nat=>V.int (k:Int)) (vi:= .list (nums (dq n))) (l:=dq n) (g:=λ D=>True) hi rfl (λ k=> .str [sw m1 m2 (bK k)]) trivial (λ x I=>Ev.sub (A x) (s x) (IJ m1 m2 (KA w x I))) (by decide:4<=100000) ?_
 have e:dH [] ((dq n).map λ k=>[sw m1 m2 (bK k)])=tx m1 m2 n:=(join_one _ _).trans (C2 m1 m2 w).symm
 refine dK (J:=J) (d:=d) (b:= .bm .kD) (ws:=[.str [],.list ((dq n).map λ k=> .str [sw m1 m2 (bK k)])]) rfl (L3 (nH _ (dq n)) (by refine e.symm▸(Ih m1 m2 w).symm▸?_;decide) (by decide:4<=100000) (dF _)) ?_
 exact e▸k
noncomputable abbrev uF(o:Cd)(a D:Nat)(e I i G d m v10 v11:V):ar:=[.list ((List.range 6).map λ k=>V.list (nums (dq (o.r k)))),.ref a,.str (kQ o.m1 o.m2),.ref D,e,I,i,G,d,m,v10,v11]
inductive DI(o:Cd)(a D:Nat)(tT:Mem)(v:Nat->Nat)(v4 v5 v6:V)(cs:aj)(B:ar)(σ':Mem):Prop
 |mk (k:Nat) (v8 v9 v10 v11:V) (hd:List.range k++cs=List.range 6) (hr:B=uF o a D v4 v5 v6 (.list (nums (dq (xs ((List.range k).map (ku o.r v)))))) v8 v9 v10 v11) (ex:Ext tT σ'):DI o a D tT v v4 v5 v6 cs B σ'
inductive DO(o:Cd)(a:Nat)(aR:Mem)(cs:aj)(B:ar)(σ':Mem):Prop
 |mk (ds:aj) (v4 v5 v6 v7 v8 v9 v10 v11:V) (hd:ds++cs=List.range 6) (hr:B=uF o a aR.n v4 v5 v6 v7 v8 v9 v10 v11) (ex:Ext aR σ') (hn:aR.n<σ'.n) (hD:∃ep,σ'.f aR.n= .dict (xR (λ c=>o.t (uH o.N o.r c)) (ds.filter λ c=> !kR o.N c)) ep):DO o a aR cs B σ'
theorem BK(H:Hd J){f:Mem}{o:Cd}{a:Nat}{b:Nat->Nat}(nd:kU o f a b)(nk:∀c,c<6->∀x∈o.N c,x<6)(nl:∀c,(o.N c).length<=2)(rl:∀c,c<6->o.r c<2^24)(h:∀σ',Ext f σ'->f.n<σ'.n->(∃ep,σ'.f f.n= .dict (xR (λ c=>o.t (uH o.N o.r c)) ((List.range 6).filter λ c=> !kR o.N c)) ep)->Q (.ref f.n) σ'):aH J (d+2) (.glob nB) [.list ((List.range 6).map λ k=>V.list (nums (dq (o.r k)))),.ref a,.str (kQ o.m1 o.m2)] [] [] Q f:=by
 refine ux H _ _ _ ?_
 refine rh (v:= .ref f.n) (σ':=f.alloc (.dict [] 0)) aB ?_
 refine(?_:wSs J pg (d+1) _ (dg Q) (uF o a f.n .aF .aF .aF .aF .aF .aF .aF .aF) (f.alloc (.dict [] 0)))
 refine lM (λ x:Nat=>V.int (x:Int)) (vi:= .it false (nums (List.range 6))) (l:=List.range 6) (Ev.range (n:=6) rfl aB (by decide)) rfl (DO o a f) ⟨[],.aF,.aF,.aF,.aF,.aF,.aF,.aF,.aF,rfl,rfl,.alloc _ _,bF _,⟨0,Mem.a7 _ _⟩⟩ (λ D D D D=>trivial) ?_ ?_
 ·rintro c cs B L K ⟨t,v4,I,N,G,i,j,v10,v11,hd,rfl,ex,w,ep,A⟩ kk
  have UL:=List.nodup_append.mp (hd▸List.nodup_range (n:=6))
  have UM:c∉t:=λ m=>UL.2.2 c m c (.head _) rfl
  have JW:t.length<=6:=by
   have:=aE List.length hd
   rw[bU,bR]at this
   exact this▸au _ _
  refine(?_:wSs J pg (d+1) _ K (uF o a f.n (.int (c:Int)) I N G i j v10 v11) L)
  refine unpack_ (jm (d:=d) (a:=lJ) aB ?_)
  refine xK (vs:=[.ref a,.int (c:Int)]) (gD.cons rfl aB (gD.one rfl aB)) ?_
  refine zW H (nd.keep (.kh ex)) nk nl λ p C hT Rw=>⟨rfl,?_⟩
  refine(?_:wSs J pg (d+1) _ _ (uF o a f.n (.int (c:Int)) (.ref L.n) (.bool (kR o.N c)) G i j v10 v11) p)
  have T:=ex.trans C
  have u:p.f f.n=_:=(C.2 _ w).trans A
  have r:=ah w C.1
  refine qa (!kR o.N c) (Ev.uf (va:= .bool (kR o.N c)) aB rfl) (λ e=> ?_) (λ e=> ?_)
  ·refine cH (v:= .list (nums (dq 0))) aB ?_
   refine(?_:wSs J pg (d+1) _ _ (uF o a f.n (.int (c:Int)) (.ref L.n) (.bool (kR o.N c)) (.list (nums (dq 0))) i j v10 v11) p)
   refine lM (λ x:Nat=>V.int (x:Int)) (vi:= .it false (nums (List.range 6))) (l:=List.range 6) (Ev.range (n:=6) rfl aB (by decide)) rfl (DI o a f.n p (iL o.N c 6) (.int (c:Int)) (.ref L.n) (.bool (kR o.N c))) ⟨0,i,j,v10,v11,rfl,rfl,.refl _⟩ (λ D D D D=>trivial) ?_ ?_
   ·rintro k WC B M K' ⟨E,i,j,v10,v11,s,rfl,g⟩ z
    obtain⟨rfl,Iy⟩:=lQ s
    have hw:Ev J (d+1) (.sub (.var 5) (.var 8)) (uF o a f.n (.int (c:Int)) (.ref L.n) (.bool (kR o.N c)) (.list (nums (dq (xs ((List.range k).map (ku o.r (iL o.N c 6))))))) (.int (k:Int)) j v10 v11) M (.int ((iL o.N c 6 k:Nat):Int)):=
     Ev.sub (va:= .ref L.n) (vb:= .int (k:Int)) aB aB ((Dc.ref L.n rfl ((g.2 _ Rw).trans hT)).sub Iy)
    have rs:List.range (k+1)=List.range k++[k]:=List.range_succ
    have U:xs ((List.range (k+1)).map (ku o.r (iL o.N c 6)))=xs ((List.range k).map (ku o.r (iL o.N c 6)))^^^ku o.r (iL o.N c 6) k:=by
     refine rs.symm▸fj.symm▸?_
     exact IE _ _
    have hd2:List.range (k+1)++WC=List.range 6:=by rw[rs,cj];exact s
    refine(?_:wSs J pg (d+1) _ K' (uF o a f.n (.int (c:Int)) (.ref L.n) (.bool (kR o.N c)) (.list (nums (dq (xs ((List.range k).map (ku o.r (iL o.N c 6))))))) (.int (k:Int)) j v10 v11) M)
    refine lL (x:=iL o.N c 6 k%2) (n:=1) (Ev.bin (vb:= .int ((2:Nat):Int)) hw aB (g0 _ 2 (by decide))) aB (λ q=> ?_) (λ q=> ?_)
    ·refine km (qi (xs:=dq (xs ((List.range k).map (ku o.r (iL o.N c 6))))) (ys:=dq (o.r k)) (λ x y=>x^^^y) aB (λ K E=> ?_) (λ x D y σ'=>Ev.bin (va:= .int (x:Int)) (vb:= .int (y:Int)) aB aB L9) (by decide:4<=1000) λ Me Rx=> ?_)
     ·exact Ex (Ev.sub (va:= .list ((List.range 6).map λ k=>V.list (nums (dq (o.r k))))) (vb:= .int (k:Int)) aB aB (hV (by decide) Iy)) (E _ _ (.refl _) (.inl rfl))
     ·have e3:List.zipWith (λ x y=>x^^^y) (dq (xs ((List.range k).map (ku o.r (iL o.N c 6))))) (dq (o.r k))=dq (xs ((List.range (k+1)).map (ku o.r (iL o.N c 6)))):=by
       refine U.symm▸(show ku o.r (iL o.N c 6) k=o.r k from aw q).symm▸?_
       exact Ig _ _
      exact e3▸eO (z _ _ ⟨k+1,_,j,v10,v11,hd2,rfl,g.trans Rx⟩).1
    ·rw[show ku o.r (iL o.N c 6) k=0 from av q,Nat.xor_zero]at U
     exact U▸eO (z _ _ ⟨k+1,_,j,v10,v11,hd2,rfl,g⟩).1
   ·rintro B M ⟨k,i,j,v10,v11,s,rfl,g⟩
    have hk:k=6:=by
     have:=aE List.length s
     rw[bU,bR,bR]at this
     exact this
    subst hk
    have fJ:uH o.N o.r c<2^24:=Di rl c
    refine C0 (a:=f.n) (k:=(c:Int)) (v:= .str (o.t (uH o.N o.r c))) (λ K k=>vR fJ aB (λ D K k=>k) (λ D K k=>k) k) aB aB ((g.2 _ r).trans u) (by
     delta xR
     rw[aX]
     exact aa (jO _ _) (aa JW (by decide))) λ nM=> ?_
    rw[pa (by rw[gc];exact av λ m=>UM (jN.mp m).1),<-C6 (λ c=>o.t (uH o.N o.r c))]
    refine eO (kk _ _ ?_).1
    refine⟨t++[c],_,_,_,_,_,_,_,_,(cj _ [c] _).trans hd,rfl,(T.trans g).set (ai _) _,ah r g.1,⟨nM,(Mem.aO _ _ _).trans ?_⟩⟩
    rw[List.filter_append,kZ,aw e]
    rfl
  ·refine eO (kk _ _ ⟨t++[c],_,_,_,_,_,_,_,_,(cj _ [c] _).trans hd,rfl,T,r,⟨ep,u.trans ?_⟩⟩).1
   rw[List.filter_append,kZ,av (by rw[e];nofun)]
   exact aE (λ l=>O.dict (xR _ l) ep) (d1 _).symm
 ·rintro B σ' ⟨t,v4,I,N,G,i,j,v10,v11,hd,rfl,ex,w,A⟩
  have hd:t=List.range 6:=(d1 _).symm.trans hd
  subst hd
  exact h σ' ex w A
noncomputable def eW(ns:List Int):aj:=(ns.take 6).map λ i=>(Int.fmod i 1000000).toNat
noncomputable def rO:aj:=[88190,1251840,280712,1429713,1221435,1358178]
noncomputable def ct(ns:List Int):aj:=List.zipWith (λ x y=>x+y) rO (eW ns++List.replicate 6 0)
theorem ph(ns:List Int):(ct ns).length=6:=by
 unfold ct
 rw[List.length_zipWith,bU,List.length_replicate]
 exact Nat.min_eq_left (lg _ _)
theorem tY(ns:List Int):(eW ns).length<=6:=by
 unfold eW
 rw[aX,List.length_take]
 exact Nat.min_le_left _ _
theorem Ry{α:Type}(g:Nat->α){l:aj}(h:l.length=6):l.map g=(List.range 6).map λ k=>g (l.getD k 0):=by
 refine List.ext_getElem (by rw[aX,aX,bR,h]) λ i M u=> ?_
 rw[aX]at M
 rw[List.getElem_map,List.getElem_map,List.getElem_range,kX,jr M]
 rfl
noncomputable def vS:aj:=[0,1,60,61,62,63,62,63]
noncomputable def z8(n j:Nat):Nat:=vS.getD (n/512/8^j%8) 0
theorem kz(n j:Nat):z8 n j<64:=by
 have f:∀k:Fin 8,vS.getD k 0<64:=by decide
 exact f ⟨n/512/8^j%8,eA _ (by decide)⟩
noncomputable def nR(n:Nat):Nat:=EM (z8 n 0) (z8 n 1) (z8 n 2) (z8 n 3)
theorem xW(n:Nat):nR n<2^24:=KC (kz n 0) (kz n 1) (kz n 2) (kz n 3)
theorem IK(n:Nat):dq (nR n)=(List.range 4).map (z8 n):=EN (kz n 1) (kz n 2) (kz n 3)
theorem U2(k:Nat)(H:k<=1000):mn Y .Pow (.int 8) (.int (k:Int))=some (.int ((8^k:Nat):Int)):=by
 refine(?_:(if decide ((0:Int)<=k)&&(decide ((k:Int)<=1000)&&small 8)then some ((8:Int)^(k:Int).toNat)else none).map V.int=_)
 rw[af (dE k),af (show(k:Int)<=1000 from gq.mpr H),Int.natCast_pow]
 rfl
theorem BL{α:Type}(vs:List α)(k:Nat):cE vs none (some (k:Int))=vs.take k:=by
 refine(?_:(vs.drop 0).take (clipAt vs.length (k:Int)-0)=_)
 rw[xF]
 refine(?_:vs.take (min k vs.length)=vs.take k)
 by_cases h:k<=vs.length
 ·rw[Nat.min_eq_left h]
 ·have h:=Nat.le_of_not_le h
  rw[Nat.min_eq_right h,List.take_length,List.take_of_length_le h]
noncomputable abbrev LG(o v2 t I i G d m b g r l v20:V):ar:=[o,.aF,v2,t,.aF,I,i,G,d,m,.aF,.aF,b,.aF,.aF,g,.aF,r,l,.aF,v20,.aF]
theorem Rz(H:Hd J){ns:List Int}(m:ns.length<=63){r:List MS}{Q:Fl->ar->Mem->Prop}(h:∀σ',Ext Y σ'->wSs J pg d r Q (LG (.list (ns.map .int)) (.list (nums (eW ns))) (.list (nums rO)) (.list (nums (ct ns))) .aF .aF .aF .aF .aF .aF .aF .aF .aF) σ'):wSs J pg d (fF.take 3++r) Q (LG (.list (ns.map .int)) .aF .aF .aF .aF .aF .aF .aF .aF .aF .aF .aF .aF) Y:=by
 have u:(ns.take 6).length<=6:=by rw[List.length_take];exact Nat.min_le_left _ _
 refine cH (v:= .list (nums (eW ns))) (λ K k=> ?_) ?_
 ·refine qL V.int (vi:= .list ((ns.map V.int).take 6)) (l:=ns.take 6) (g:=λ D=>True) (HX (vo:= .list (ns.map .int)) (l:=none) (h:=some ((6:Nat):Int)) aB (λ K k=>CR k) (λ K k=>CS (n:=((6:Nat):Int)) aB k) ?_) (aE (λ l=>some (false,l,_)) List.map_take.symm) (λ i=>V.int ((Int.fmod i 1000000).toNat:Int)) trivial (λ i D f E=> ?_) (aa u (by decide)) ?_
  ·refine(aw (af (by rw[aX];exact aa m (by decide)))).trans ?_
   rw[BL]
  ·rw[<-HT]at E
   exact Ex (Ev.bin (va:= .int i) (vb:= .int 1000000) (ka (b:= .ty .int) (w:= .int i) aB rfl aB rfl) (Ev.bin (va:= .int 10) (vb:= .int 6) aB aB rfl) rfl) E
  ·rw[show(ns.take 6).map (λ i=>V.int ((Int.fmod i 1000000).toNat:Int))=nums (eW ns) by rw[nums,eW,fN];rfl]
   exact k
 refine cH (v:= .list (nums rO)) aB ?_
 refine QN (v:= .list (nums (ct ns))) (λ K k=> ?_) h
 exact qi (xs:=rO) (ys:=eW ns++List.replicate 6 0) (λ x y=>x+y) aB (λ K k=>Ex (Ev.bin (va:= .list (nums (eW ns))) (vb:= .list (nums (List.replicate 6 0))) aB (Ev.bin (va:= .list [.int 0]) (vb:= .int 6) aB aB rfl) (add_list (aa (fk (tY ns) (bN List.length_replicate)) (by decide)))) (k _ _ (.refl _) (.inl rfl))) (λ x D y σ'=>Ev.bin (va:= .int (x:Int)) (vb:= .int (y:Int)) aB aB (CP _ _)) (by decide:6<=1000) k
noncomputable abbrev six(f:Nat->V):V:= .list ((List.range 6).map f)
noncomputable abbrev mm(ns:List Int)(k:Nat):Nat:=(ct ns).getD k 0
noncomputable abbrev uI(ns:List Int):Nat:=(eW ns).sum
theorem RA{ns:List Int}(u:Ev J d (.var 2) B Y (.list (nums (eW ns)))):Ev J d (.call (.ck 33) [.var 2] [] []) B Y (.int ((uI ns:Nat):Int)):=ka (b:= .bi .sum) aB rfl (gD.one rfl u) (N8 (aa (tY ns) (by decide)))
theorem RB(H:Hd J){ns:List Int}{r:List MS}{Q:Fl->ar->Mem->Prop}{s t:V}{m1 m2:Nat}(hm:cJ (uI ns/6%6)=(m1,m2))(h:∀σ',Ext Y σ'->σ'.n=Y.n+7->σ'.f Y.n= .list ((List.range 6).map λ c=>V.ref (Y.n+1+c))->(∀c,c<6->σ'.f (Y.n+1+c)= .list (nums (tU (mm ns c) (1+uI ns%6) c)))->wSs J pg (d+1) r Q (LG s (.list (nums (eW ns))) t (.list (nums (ct ns))) (.ref Y.n) (.str [m1,m2]) (.str (kQ m1 m2)) (.list (nums vS)) (six λ k=> .list (nums (dq (nR (mm ns k))))) (six λ k=> .str (tx m1 m2 (nR (mm ns k)))) .aF .aF .aF) σ'):wSs J pg (d+1) ((fF.drop 3).take 6++r) Q (LG s (.list (nums (eW ns))) t (.list (nums (ct ns))) .aF .aF .aF .aF .aF .aF .aF .aF .aF) Y:=by
 have U:=ph ns
 refine km (jm (d:=d) (a:=j9) aB ?_)
 refine xK (vs:=[.list (nums (ct ns)),.int ((1+uI ns%6:Nat):Int)]) (gD.cons rfl aB (gD.one rfl (Ev.bin (va:= .int ((1:Nat):Int)) (vb:= .int ((uI ns%6:Nat):Int)) aB (Ev.bin (vb:= .int ((6:Nat):Int)) (RA aB) aB (g0 _ 6 (by decide))) (CP _ _)))) ?_
 refine xS H U (ah (kY (eA _ (by decide)) 1) (by decide)) λ L ex n1 z M=> ?_
 refine(?_:wSs J pg (d+1) _ Q (LG s (.list (nums (eW ns))) t (.list (nums (ct ns))) (.ref Y.n) .aF .aF .aF .aF .aF .aF .aF .aF) L)
 have w:=EF (Y:=L) (uI ns/6%6) (eA _ (by decide))
 rw[hm]at w
 refine cH (v:= .str [m1,m2]) (Ev.sub (va:= .list [.str [34,32],.str [92,34],.str [32,92],.str [34,92],.str [10,34],.str [92,10]]) aB (Ev.bin (vb:= .int ((6:Nat):Int)) (Ev.bin (vb:= .int ((6:Nat):Int)) (RA aB) aB (mi _ 6 (by decide) (by decide))) aB (g0 _ 6 (by decide))) w) ?_
 refine cH (v:= .str (kQ m1 m2)) (Ev.bin (va:= .str xV) (vb:= .str [m1,m2]) aB aB (aw (e:=none) (af (by decide:62+2<=1000000)))) ?_
 refine cH (v:= .list (nums vS)) aB ?_
 refine(?_:wSs J pg (d+1) _ Q (LG s (.list (nums (eW ns))) t (.list (nums (ct ns))) (.ref Y.n) (.str [m1,m2]) (.str (kQ m1 m2)) (.list (nums vS)) .aF .aF .aF .aF .aF) L)
 refine cH (v:=six λ k=> .list (nums (dq (nR (mm ns k))))) (λ K k=> ?_) ?_
 ·refine qL (λ n:Nat=>V.int (n:Int)) (vi:= .list (nums (ct ns))) (l:=ct ns) (g:=λ D=>True) aB rfl (λ n=> .list (nums (dq (nR n)))) trivial (λ n D f E=> ?_) (U▸by decide) (by rw[Ry (λ n=>V.list (nums (dq (nR n)))) U];exact k)
  refine qL (λ o:Nat=>V.int (o:Int)) (l:=List.range 4) (vi:= .it false (nums (List.range 4))) (g:=λ D=>True) (Ev.range (n:=4) rfl aB (by decide)) rfl (λ j=> .int ((z8 n j:Nat):Int)) trivial (λ j b=> ?_) (by rw[bR];decide) (by
   rw[show(List.range 4).map (λ j=>V.int ((z8 n j:Nat):Int))=nums (dq (nR n)) by rw[IK,nums,fN];rfl]
   exact E)
  have m:j<=4:=dG (dU.mp b)
  refine Ev.sub (va:= .list (nums vS)) (vb:= .int ((n/512/8^j%8:Nat):Int)) aB (Ev.bin (va:= .int ((n/512/8^j:Nat):Int)) (vb:= .int ((8:Nat):Int)) (Ev.bin (va:= .int ((n/512:Nat):Int)) (vb:= .int ((8^j:Nat):Int)) (Ev.bin (va:= .int (n:Int)) (vb:= .int ((512:Nat):Int)) aB aB (mi _ 512 (by decide) (by decide))) (Ev.bin (va:= .int 8) (vb:= .int (j:Int)) aB aB (U2 j (aa m (by decide)))) (mi _ _ (Nat.ne_of_gt (Nat.pow_pos (by decide))) (b9 (Nat.pow_le_pow_right (by decide) m) (by decide)))) aB (g0 _ 8 (by decide))) ?_
  exact tV (by decide:8<=1000) (eA _ (by decide))
 refine cH (v:=six λ k=> .str (tx m1 m2 (nR (mm ns k)))) (λ K k=> ?_) (h L ex n1 z M)
 refine qL (λ k:Nat=>V.list (nums (dq (nR (mm ns k))))) (vi:=six λ k=> .list (nums (dq (nR (mm ns k))))) (l:=List.range 6) (g:=λ D=>True) aB rfl (λ k=> .str (tx m1 m2 (nR (mm ns k)))) trivial (λ n D f E=> ?_) (by rw[bR];decide) k
 exact vR (xW _) aB (λ D K k=>k) (λ D K k=>k) E
noncomputable def KQ(B c:Nat)(t:aj):Lx:=⟨B+6*c+4,B+6*c,B+6*c+3,B+6*c+2,B+6*c+5,t⟩
noncomputable def iK(ns:List Int)(m1 m2 B:Nat):Cd where
 N c:=tU (mm ns c) (1+uI ns%6) c
 r c:=nR (mm ns c)
 val:=uH (λ c=>tU (mm ns c) (1+uI ns%6) c) λ c=>nR (mm ns c)
 q c:=((mm ns c/64%2:Nat):Int)==((1:Nat):Int)
 m1:=m1
 m2:=m2
 L c:=KQ B c (o8 (((mm ns c/64%2:Nat):Int)==((1:Nat):Int)) (tx m1 m2 (nR (mm ns c)))++[10])
theorem tZ{B c i:Nat}{t:aj}(h:(KQ B c t).has i):B+6*c<=i/\i<B+6*c+6:=by
 have f:∀{k:Nat},k<6->i=B+6*c+k->B+6*c<=i/\i<B+6*c+6:=λ H e=>e▸⟨au _ _,kY H _⟩
 rcases h with e|e|e|e|e
 ·exact f (k:=4) (by decide) e
 ·exact f (k:=0) (by decide) e
 ·exact f (k:=3) (by decide) e
 ·exact f (k:=2) (by decide) e
 ·exact f (k:=5) (by decide) e
theorem z9{B c G i:Nat}{t n:aj}(h:(KQ B c t).has i)(h':(KQ B G n).has i):¬c<G:=λ M=>by
 have a:=(tZ h).2
 have b:=(tZ h').1
 exact d0 i (ah a (aa (gL (nS 6 M) B) b))
theorem Dj(ns:List Int){m1 m2:Nat}(M:i6 m1 m2)(B:Nat):iP (iK ns m1 m2 B)where
 M:=M
 rl c _:=xW _
 vl c _:=Di (λ c D=>xW _) c
 tx c _:=rfl
 dj c _ G _ U i h h':=(Nat.lt_or_gt_of_ne U).elim (z9 h h') (z9 h' h)
 nk c _:=IA _ _ _
 nl c:=ES _ _ _
 vr c q E w H:=II E w H
theorem Aa{ns:List Int}{m1 m2 B i:Nat}(h:BF (iK ns m1 m2 B) i):B<=i/\i<B+36:=by
 obtain⟨c,C,hi⟩:=h
 have r:=tZ hi
 exact⟨aa (au _ _) r.1,ah r.2 (gL (nS 6 (Nat.succ_le_of_lt C)) B)⟩
theorem BM{α:Type}{step:V->(ar->Mem->Prop)->Mem->Prop}{g:Mem->Prop}{K:ar->Mem->Prop}(e f:α->V)(I:List α->Mem->Prop)(c:∀l Y,I l Y->g Y)(L:∀a rest(K:ar->Mem->Prop) Y,I (a::rest) Y->(∀σ',I rest σ'->K [f a] σ')->step (e a) K Y)(l:List α):∀(acc:ar)(Y:Mem),I l Y->(acc++l.map f).length<=100000->(∀σ',I [] σ'->K (acc++l.map f) σ')->compLoop step g (l.map e) K acc Y:=by
 induction l with
 |nil=>exact λ acc Y j D k=>⟨c _ Y j,by have:=k Y j;rw[List.map_nil,d1]at this;exact this⟩
 |cons a l y=>
  intro acc Y j N k
  refine⟨c _ Y j,af (aa (by exact bU▸au _ _) N),L a l _ Y j λ σ' r=> ?_⟩
  rw[gu,show acc++f a::l.map f=acc++[f a]++l.map f by rw[cj];rfl]at N k
  exact y _ σ' r N k
theorem Ov{α:Type}(e f:α->V)(I:List α->Mem->Prop){elt:ME}{i:Nat}{it:ME}{vi:V}{l:List α}{g:Mem->Prop}(hit:Ev J d it B Y vi)(u:jw Y vi=some (false,l.map e,g))(q:I l Y)(c:∀l Y,I l Y->g Y)(L:∀a rest(K:eY) Y,I (a::rest) Y->(∀σ',I rest σ'->K (f a) σ')->wE J pg d elt K (B.set i (e a)) Y)(N:l.length<=100000)(T:∀σ',I [] σ'->Q (.list (l.map f)) σ'):wE J pg d (.comp false elt [i] it []) Q B Y:=by
 have N:(l.map f).length<=100000:=by rw[aX];exact N
 refine oX hit u (BM e f I c (λ a rest K Y j k=>L a rest (λ r Y=>K [r] Y) Y j k) l [] Y q N λ σ' v=> ?_)
 exact⟨af N,T σ' v⟩
inductive MI(o:Cd)(aR:Mem)(rest:aj)(σ':Mem):Prop
 |mk (j:Nat) (hd:List.range j++rest=List.range 6) (hn:σ'.n=aR.n+6*j) (ex:Ext aR σ') (hl:∀c,c<j->bE σ' (o.L c) 0 []):MI o aR rest σ'
theorem RC(H:pn J){ns:List Int}{r:List MS}{Q:Fl->ar->Mem->Prop}{o v2 t i G v m b:V}{m1 m2:Nat}(M:i6 m1 m2)(h:∀σ',Ext Y σ'->σ'.n=Y.n+36->(∀c,c<6->qP (iK ns m1 m2 Y.n) σ' c [nR (mm ns c)])->wSs J pg (d+3) r Q (LG o v2 t (.list (nums (ct ns))) i G v m b (six λ k=> .str (tx m1 m2 (nR (mm ns k)))) (.list (mV (iK ns m1 m2 Y.n))) .aF .aF) σ'):wSs J pg (d+3) ((fF.drop 9).take 1++r) Q (LG o v2 t (.list (nums (ct ns))) i G v m b (six λ k=> .str (tx m1 m2 (nR (mm ns k)))) .aF .aF .aF) Y:=by
 have U:=ph ns
 refine km ?_
 refine Ov (λ k:Nat=>V.int (k:Int)) (λ c=> .ref ((iK ns m1 m2 Y.n).L c).il) (MI (iK ns m1 m2 Y.n) Y) (l:=List.range 6) (vi:= .it false (nums (List.range 6))) (g:=λ D=>True) (Ev.range (n:=6) rfl aB (by decide)) rfl ⟨0,rfl,rfl,.refl _,λ c C=>nomatch C⟩ (λ D D D=>trivial) ?_ (by rw[bR];decide) ?_
 ·rintro c rest K y ⟨j,hd,w,ex,N⟩ k
  obtain⟨rfl,C⟩:=lQ hd
  have f:=Ih m1 m2 (xW (mm ns c))
  obtain⟨q,s⟩:∃q,(((mm ns c/64%2:Nat):Int)==((1:Nat):Int))=q:=⟨_,rfl⟩
  have x:(o8 q (tx m1 m2 (nR (mm ns c)))).length<=10:=by
   have:=EE q (tx m1 m2 (nR (mm ns c)))
   rw[f]at this
   exact this
  have u:Ev J (d+3) (.call (.ck 41) [.sub (.var 15) (.var 16),.cmp .Eq (.bin .Mod (.bin .FloorDiv (.sub (.var 5) (.var 16)) (.lit (.int 64))) (.lit (.int 2))) (.lit (.int 1))] [] []) ((LG o v2 t (.list (nums (ct ns))) i G v m b (six λ k=> .str (tx m1 m2 (nR (mm ns k)))) .aF .aF .aF).set 16 (.int (c:Int))) y (.str (o8 q (tx m1 m2 (nR (mm ns c))))):=λ K k=>by
   refine jm (d:=d+2) (a:=lI) aB ?_
   refine xK (vs:=[.str (tx m1 m2 (nR (mm ns c))),.bool (((mm ns c/64%2:Nat):Int)==((1:Nat):Int))]) (gD.cons rfl (Ev.sub (va:=six λ k=> .str (tx m1 m2 (nR (mm ns k)))) (vb:= .int (c:Int)) aB aB (hV (by decide) C)) (gD.one rfl (Ev.cmp (va:= .int ((mm ns c/64%2:Nat):Int)) (vb:= .int ((1:Nat):Int)) (Ev.bin (vb:= .int ((2:Nat):Int)) (Ev.bin (vb:= .int ((64:Nat):Int)) (Ev.sub (va:= .list (nums (ct ns))) (vb:= .int (c:Int)) aB aB (tV (U▸by decide) (U▸C))) aB (mi _ 64 (by decide) (by decide))) aB (g0 _ 2 (by decide))) aB rfl))) ?_
   exact s▸zM H.hd _ _ (by rw[f];decide) k
  refine jm (d:=d+2) (a:=a6) aB ?_
  refine xK (vs:=[.str (o8 q (tx m1 m2 (nR (mm ns c)))++[10])]) (gD.one rfl (Ev.bin (vb:= .str [10]) u aB (aw (af (aa (eh x 1) (by decide)))))) ?_
  refine xI (d:=d) H (by exact bU▸aa (eh x 1) (by decide)) λ p z l₂ E=> ?_
  rw[w]at l₂ E⊢
  refine k p ⟨c+1,by rw[List.range_succ,cj];exact hd,E,ex.trans z,λ I T=> ?_⟩
  by_cases e:I=c
  ·subst e
   rw[<-s]at l₂
   exact l₂
  ·exact z.lex (N I (x9 (t9 T) e))
 ·rintro σ' ⟨j,hd,w,ex,N⟩
  have A:j=6:=by
   have:=aE List.length hd
   rw[bU,bR,bR]at this
   exact this
  subst A
  exact h σ' ex w λ c C=> .more [] rfl (N c C)
noncomputable abbrev fM(o:Cd):aj:=(List.range 6).filter λ c=> !kR o.N c
theorem Opened.p{o:Cd}(ok:iP o){f σ':Mem}{O:aj}{q:Bool}{n1:Nat}(h:Opened o f σ' O q n1)(x:Nat):x∈fM o↔x∈O:=by
 rw[jN]
 refine⟨λ m=> ?_,λ m=>⟨dU.mpr (h.k6 x m),?_⟩⟩
 ·have I:=dU.mp m.1
  have e:=m.2
  rw[show kR o.N x= !decide (x∈O) from zY ok.nk h.od h.nd h.k6 h.rest I,Bool.not_not]at e
  exact ae e
 ·rw[show kR o.N x= !decide (x∈O) from zY ok.nk h.od h.nd h.k6 h.rest (h.k6 x m),Bool.not_not]
  exact af m
theorem Opened.len{o:Cd}(ok:iP o){f σ':Mem}{O:aj}{q:Bool}{n1:Nat}(h:Opened o f σ' O q n1):O.reverse.length=(fM o).length:=by
 refine qm.symm▸?_
 exact Nat.le_antisymm (h.nd.length_le_of_subset λ x I=>(h.p ok x).mpr I) ((show(fM o).Nodup from List.nodup_range.filter _).length_le_of_subset λ x I=>(h.p ok x).mp I)
theorem Opened.refused{o:Cd}(ok:iP o){f σ':Mem}{O:aj}{q:Bool}{n1:Nat}(h:Opened o f σ' O q n1):decide (((fM o).length:Int)<((6:Nat):Int))=q:=by
 have u:(fM o).length<=6:=aa (jO _ _) (bN bR)
 have key:(∀c,c<6->c∈O)↔¬(fM o).length<6:=⟨λ a N=>by
   have:=(List.nodup_range (n:=6)).length_le_of_subset (l₂:=fM o) λ x I=>(h.p ok x).mpr (a x (dU.mp I))
   rw[bR]at this
   exact aC this N,λ N c C=>by
   have e:(fM o).length=(List.range 6).length:=by exact bR▸Nat.le_antisymm u (Nat.le_of_not_lt N)
   have l:=List.length_filter_eq_length_iff.mp e
   exact(h.p ok c).mp (jN.mpr ⟨dU.mpr C,l c (dU.mpr C)⟩)⟩
 by_cases N:(fM o).length<6
 ·exact af (mF.mpr N)▸(h.q.mpr λ a=>key.mp a N).symm
 ·refine(cg λ e=>N (mF.mp e)).symm▸?_
  induction q with
  |false=>rfl
  |true=>exact absurd (key.mpr N) (h.q.mp rfl)
theorem IM{f:Nat->aj}{U:aj}:∀{e:aj},(∀x∈e,x∈U)->allEq ((xR f e).map λ p=>match(xR f U).lookup p.1 with
  |some w=>rq 2 p.2 w
  |none=>some false)=some true:=λ{e} h=>tK _ λ x I=>by
 obtain⟨p,hp,rfl⟩:=cQ.mp I
 obtain⟨c,C,rfl⟩:=cQ.mp hp
 dsimp only
 rw[gc,aw (h c C)]
 exact CQ 2 _
theorem IP{i j k l:Nat}{f:Nat->aj}{e h:aj}(hi:Y.f i= .dict (xR f e) k)(s:Y.f j= .dict (xR f h) l)(U:i≠j)(N:e.length=h.length)(L:∀x∈e,x∈h)(q:Bool):Mo Y (.tuple [.bool q,.ref i]) (.tuple [.bool q,.ref j])=some true:=by
 have d:RM Y (.ref i) (.ref j)=some true:=by
  refine(?_:(match Y.f i with| .dict xs _=>(match Y.f j with| .dict ys _=>if decide (i=j)then none else mY (rq 2) xs ys|_=>none)|_=>none)=_)
  refine hi.symm▸s.symm▸?_
  dsimp only
  refine(cg U).symm▸?_
  refine(aw (af ?_)).trans (IM L)
  delta xR
  rw[aX,aX,N]
 refine(?_:eqT Y (.tuple [.bool q,.ref i]) (.tuple [.bool q,.ref j])=_)
 refine(?_:allEq [some (q==q),RM Y (.ref i) (.ref j)]=_)
 rw[d,hZ]
 rfl
noncomputable def KR(o:Cd)(O:aj)(c:Nat):aj:=if c∈O then[]else(Il o.N c O).map o.val
theorem qP.line{o:Cd}{c:Nat}{O:aj}(h:qP o Y c (jo o O c)):∃k,bE Y (o.L c) k (o.tv (KR o O c)):=by
 unfold jo at h
 delta KR
 by_cases m:c∈O
 ·rw[aw m]at h⊢
  induction h with
  |more ns e l=>exact absurd (aE List.length e) (by rw[cY];nofun)
  |last k e l _=>exact⟨k,l⟩
 ·rw[av m]at h⊢
  induction h with
  |more ns e l=>exact List.append_cancel_right e▸⟨0,l⟩
  |last k e l _=>exact absurd (aE List.length e) (by rw[cY];nofun)
noncomputable abbrev BN(o:Cd)(c:Nat):aj:=(o.N c).filter λ x=>decide (x∈fM o)&& !decide (c∈fM o)
theorem Opened.lines{o:Cd}(ok:iP o){f σ':Mem}{O:aj}{q:Bool}{n1:Nat}(h:Opened o f σ' O q n1)(c:Nat):iq ((KR o O c).map o.t)=iq ((BN o c).map λ x=>o.t (o.val x)):=by
 have p:((KR o O c).map o.t).Perm ((BN o c).map λ x=>o.t (o.val x)):=by
  have C:decide (c∈fM o)=decide (c∈O):=rM (h.p ok c)
  delta KR
  by_cases m:c∈O
  ·rw[aw m,show BN o c=[] from List.filter_eq_nil_iff.mpr λ x D=>by rw[C,af m,Bool.not_true,Bool.and_false];nofun]
   exact .refl _
  ·refine(av m).symm▸fN.symm▸?_
   refine List.Perm.map _ (List.perm_iff_count.mpr λ a=> ?_)
   refine(qj o.N c a h.nd).symm▸?_
   by_cases v:a∈O
   ·exact aw v▸(List.count_filter (by rw[C,cg m,af ((h.p ok a).mpr v)];rfl)).symm
   ·refine(av v).symm▸?_
    refine(i8.mpr λ hm=> ?_).symm
    exact v ((h.p ok a).mp (ae (ao (jN.mp hm).2).1))
 exact zl ((th _).trans p) (oO _)
theorem Ab{α:Type}{i:Nat}(g:α->aj)(l:List α)(h:Y.f i= .list (l.map λ a=> .str (g a)))(N:l.length<60):dY Y (.bi .sorted) [.ref i]=some (.list ((iq (l.map g)).map .str),Y):=by
 refine(?_:(match Y.f i with| .list vs=>(if decide (vs.length<60)then(strsOf vs).map λ T=>(V.list ((iq T).map .str),Y)else none)|_=>none)=_)
 refine h.symm▸?_
 refine(aw (af (by rw[aX];exact N))).trans ?_
 refine(nH g l).symm▸?_
 rfl
theorem Ev.Ow{es:List ME}{vs:ar}(h:gD J d es B Y vs):Ev J d (.tuple es) B Y (.tuple vs):=λ K k=>h (λ vs Y=>K (.tuple vs) Y) k
theorem len_dict{e:ME}{i ep:Nat}{f:Nat->aj}{P:aj}(he:Ev J d e B Y (.ref i))(M:e.isStar=false)(h:Y.f i= .dict (xR f P) ep)(N:P.length<=1000):Ev J d (.call (.ck 24) [e] [] []) B Y (.int (P.length:Int)):=HC he M ((aE Fq h).trans (aE some (aX _))) (aa N (by decide))
theorem RE(H:pn J){ns:List Int}{r:List MS}{Q:Fl->ar->Mem->Prop}{s v2 A I m g:V}{m1 m2 a B:Nat}{b:Nat->Nat}(M:i6 m1 m2)(C:kU (iK ns m1 m2 B) Y a b)(l:∀c,c<6->qP (iK ns m1 m2 B) Y c [nR (mm ns c)])(U:Y.n=B+36)(h:∀σ' O q n1 G ep,(∃L,Opened (iK ns m1 m2 B) L σ' O q n1)->kU (iK ns m1 m2 B) σ' a b->σ'.f G= .dict (xR (λ c=>(iK ns m1 m2 B).t ((iK ns m1 m2 B).val c)) (fM (iK ns m1 m2 B))) ep->G<σ'.n->wSs J pg (d+5) r Q (LG s v2 A I (.ref a) (.str [m1,m2]) (.str (kQ m1 m2)) m (six λ k=> .list (nums (dq (nR (mm ns k))))) g (.list (mV (iK ns m1 m2 B))) (.ref G) .aF) σ'):wSs J pg (d+5) ((fF.drop 10).take 2++r) Q (LG s v2 A I (.ref a) (.str [m1,m2]) (.str (kQ m1 m2)) m (six λ k=> .list (nums (dq (nR (mm ns k))))) g (.list (mV (iK ns m1 m2 B))) .aF .aF) Y:=by
 have ok:=Dj ns M B
 refine km (jm (d:=d+4) (a:=nB) aB ?_)
 refine xK (vs:=[six λ k=> .list (nums (dq (nR (mm ns k)))),.ref a,.str (kQ m1 m2)]) (gD.cons rfl aB (gD.cons rfl aB (gD.one rfl aB))) ?_
 refine BK (d:=d+3) H.hd (o:=iK ns m1 m2 B) C ok.nk ok.nl ok.rl λ z N n₁ j=> ?_
 obtain⟨ep,j⟩:=j
 refine(?_:wSs J pg (d+5) _ Q (LG s v2 A I (.ref a) (.str [m1,m2]) (.str (kQ m1 m2)) m (six λ k=> .list (nums (dq (nR (mm ns k))))) g (.list (mV (iK ns m1 m2 B))) (.ref Y.n) .aF) z)
 have low:∀i,BF (iK ns m1 m2 B) i->i<Y.n:=λ i hi=>U▸(Aa hi).2
 refine N9 (CT ?_)
 refine jm (d:=d+4) (a:=ji) aB ?_
 refine xK (vs:=[.list (mV (iK ns m1 m2 B)),.ref a,.bytes [m1,m2]]) (gD.cons rfl aB (gD.cons rfl aB (gD.one rfl λ K k=>qg (v:= .str [m1,m2]) (x:=(.bm .gd,[.str [m1,m2]])) aB rfl (w:= .str [97,115,99,105,105]) aB (dK (J:=J) (d:=d+5) rfl (Kr M) k)))) ?_
 refine uG (d:=d) H ok (C.keep (.kh N)) (λ c y=>(l c y).keep N.1 λ i hi D=>N.2 i hi) (λ i hi=>ah (low i hi) N.1) λ p O q n1 op=> ?_
 have e:p.f Y.n=_:=(op.om.fm.2 _ n₁ λ u=>d0 _ (low _ u)).trans j
 obtain⟨n,T⟩:=op.om.op
 have hlen:=op.len ok
 have E:(fM (iK ns m1 m2 B)).length<=6:=aa (jO _ _) (bN bR)
 have f:n1≠Y.n:=Nat.ne_of_gt (ah n₁ op.om.g1)
 refine Ex (v:= .tuple [.bool q,.ref Y.n]) (Ev.Ow (gD.cons rfl (Ev.cmp (va:= .int ((fM (iK ns m1 m2 B)).length:Int)) (vb:= .int ((6:Nat):Int)) (len_dict aB rfl e (aa E (by decide))) aB (aE some (op.refused ok))) (gD.one rfl aB))) ?_
 have heq:mq p .NotEq (.tuple [.bool q,.ref n1]) (.tuple [.bool q,.ref Y.n])=some false:=aE (Option.map (!·)) (IP T e f hlen (λ x u=>(op.p ok x).mpr (fR.mp u)) q)
 refine cX heq ?_
 exact h p O q n1 Y.n ep ⟨_,op⟩ ((C.keep (.kh N)).keep op.om.fm) e (ah n₁ op.om.fm.1)
theorem KS{α:Type}(p:α->Bool)(g:α->V)(l:List α):(l.flatMap λ x=>if p x then[g x]else[])=(l.filter p).map g:=by
 induction l with
 |nil=>rfl
 |cons x l y=>
  rw[List.flatMap_cons,y,kZ]
  by_cases e:p x=true
  ·rw[aw e,aw e];rfl
  ·rw[av e,av e];rfl
noncomputable abbrev texts(T:List aj):V:= .list (T.map .str)
theorem EW(n:Nat)(T:List aj):rq (n+1) (texts T) (texts T)=some true:=zN λ v j=>by
 obtain⟨s,D,rfl⟩:=cQ.mp j
 exact CQ _ _
theorem RF(H:pn J){o:Cd}(ok:iP o){Y p:Mem}{s v2 t I N i f M T:V}{a G ep n1:Nat}{b:Nat->Nat}{O:aj}{q:Bool}(op:Opened o p Y O q n1)(r:kU o Y a b)(hD:Y.f G= .dict (xR (λ c=>o.t (o.val c)) (fM o)) ep)(Dl:G<Y.n)(h:∀σ',Q (.bool true) σ'):wSs J pg (d+5) (fF.drop 12) (dg Q) (LG s v2 t I (.ref a) N i f M T (.list (mV o)) (.ref G) .aF) Y:=by
 obtain⟨W,hW⟩:∃W:Nat->List aj,(λ c=>iq ((KR o O c).map o.t))=W:=⟨_,rfl⟩
 have j:∀c,iq ((KR o O c).map o.t)=W c:=λ c=>congrFun hW c
 have Yl:∀c,iq ((BN o c).map λ x=>o.t (o.val x))=W c:=λ c=>(op.lines ok c).symm.trans (j c)
 refine cH (v:=six λ c=>texts (W c)) (λ K k=> ?_) ?_
 ·refine qL (λ c:Nat=>V.ref (o.L c).il) (vi:= .list (mV o)) (l:=List.range 6) (g:=λ D=>True) aB rfl (λ c=>texts (W c)) trivial (λ c C=> ?_) (by rw[bR];decide) k
  have C:=dU.mp C
  obtain⟨k,l⟩:=qP.line (op.om.lx c C)
  obtain⟨ln,u⟩:=l.l
  rw[<-j]
  refine ka (b:= .bi .sorted) (w:= .ref (o.L c).ip) aB rfl (gD.one rfl (gH aB u rfl rfl nofun)) (Ab o.t (KR o O c) l.p ?_)
  unfold KR
  by_cases m:c∈O
  ·rw[aw m];decide
  ·rw[av m,aX]
   exact b9 (tR ok c op.nd op.k6) (by decide)
 refine(?_:wSs J pg (d+5) _ (dg Q) (LG s v2 t I (.ref a) N i f M T (.list (mV o)) (.ref G) (six λ c=>texts (W c))) Y)
 refine Ks (CT (Ex (v:=six λ c=>texts (W c)) aB ?_))
 refine HB (λ c:Nat=>V.int (c:Int)) (l:=List.range 6) (vi:= .it false (nums (List.range 6))) (g:=λ D=>True) (Ev.range (n:=6) rfl aB (by decide)) rfl (λ c=>texts (W c)) (Ext Y) (.refl _) (λ D D=>trivial) (λ c C K L ex k=> ?_) (by rw[bR];decide) λ σ' ex=> ?_
 ·have C:=dU.mp C
  have z:=r.keep (.kh ex)
  have U:G<Y.n->L.f G=_:=λ u=>(ex.2 G u).trans hD
  have U:=U Dl
  have inD:∀x:Nat,mq L .In (.int (x:Int)) (.ref G)=some (decide (x∈fM o)):=λ x=>(aE (OB · (x:Int)) U).trans (aE some (by
   rw[gc]
   by_cases m:x∈fM o
   ·rw[aw m,af m];rfl
   ·rw[av m,cg m];rfl))
  have hit:jw L (.ref (b c))=some (false,nums (o.N c),λ σ'=>σ'.f (b c)= .list (nums (o.N c))):=aE (sv (b c)) (z.hb c C)
  have A:((o.N c).flatMap λ x=>if(decide (x∈fM o)&& !decide (c∈fM o))then[V.str (o.t (o.val x))]else[])=(BN o c).map λ x=> .str (o.t (o.val x)):=KS _ _ _
  have hlen:((BN o c).map λ x=>V.str (o.t (o.val x))).length<=2:=by rw[aX];exact aa (jO _ _) (ok.nl c)
  have key:wE J pg (d+5) (.comp true (.sub (.var 18) (.var 21)) [21] (.sub (.var 6) (.var 16)) [.qT [.cmp .In (.var 21) (.var 18),.cmp .NotIn (.var 16) (.var 18)]]) (λ v Y=>pH (.bi .sorted) [v] [] K Y) ((LG s v2 t I (.ref a) N i f M T (.list (mV o)) (.ref G) (six λ c=>texts (W c))).set 16 (.int (c:Int))) L:=by
   refine oX (Ev.sub (va:= .ref a) (vb:= .int (c:Int)) aB aB (z.sub C)) hit (gX (λ x:Nat=>V.int (x:Int)) (λ x=>if(decide (x∈fM o)&& !decide (c∈fM o))then[V.str (o.t (o.val x))]else[]) (λ σ'=>σ'=L) (λ σ' e=>by exact e▸z.hb c C) (o.N c) [] L (λ x hx K' σ' e E=> ?_) rfl (by rw[k9,A];exact aa hlen (by decide)) λ σ' e=> ?_)
   ·subst e
    have E:=E _ rfl
    refine C1 (v:= .bool (decide (x∈fM o)&& !decide (c∈fM o))) (q:=decide (x∈fM o)&& !decide (c∈fM o)) (Ev.zD (Ev.cmp (va:= .int (x:Int)) (vb:= .ref G) aB aB (inD x)) rfl (Ev.cmp (va:= .int (c:Int)) (vb:= .ref G) aB aB (aE (Option.map (!·)) (inD c))) rfl) rfl ?_
    cases y:(decide (x∈fM o)&& !decide (c∈fM o))with
    |false=>rw[y]at E;exact E
    |true=>
     rw[y]at E
     have jb:gA σ' (.ref G) (.int (x:Int))=some (.str (o.t (o.val x))):=by
      refine(?_:(match σ'.f G with| .list vs=>_| .dict bC _=>_|_=>none)=_)
      exact U▸(gc _ x _).trans (aw (ae (ao y).1))
     exact Ex (Ev.sub (va:= .ref G) (vb:= .int (x:Int)) aB aB jb) E
   ·subst e
    rw[k9,A]
    refine⟨af (aa hlen (by decide)),?_⟩
    refine lN (Ab (λ x=>o.t (o.val x)) (BN o c) (Mem.a7 _ _) (b9 (aa (jO _ _) (ok.nl c)) (by decide))) ?_
    rw[Yl]
    exact k _ (ex.qb _)
  exact key
 ·exact cX (Mp (zN λ v hv=>by
   obtain⟨c,D,rfl⟩:=cQ.mp hv
   exact EW 4 (W c))) (h σ')
theorem Ox(H:pn J){ns:List Int}(w:ns.length<=63):aH J (d+20) (.glob tC) [.list (ns.map .int)] [] [] (λ v D=>v= .bool true) Y:=by
 obtain⟨m1,m2,hm⟩:∃m1 m2,cJ (uI ns/6%6)=(m1,m2):=⟨_,_,rfl⟩
 have M:i6 m1 m2:=by have:=HW (uI ns/6%6);rw[hm]at this;exact this
 refine Hx H.hd _ ?_
 refine(?_:wSs J pg (d+19) (fF.take 3++fF.drop 3) _ _ _)
 refine Rz H.hd w λ L u=> ?_
 refine(?_:wSs J pg (d+19) ((fF.drop 3).take 6++fF.drop 9) _ _ _)
 refine RB (d:=d+18) H.hd hm λ p T E z U=> ?_
 refine(?_:wSs J pg (d+19) ((fF.drop 9).take 1++fF.drop 10) _ _ _)
 refine RC (d:=d+16) H M λ G y a r=> ?_
 have g:kU (iK ns m1 m2 p.n) G L.n (λ c=>L.n+1+c):=by
  have t:∀{i:Nat},i<p.n->i<G.n/\¬BF (iK ns m1 m2 p.n) i:=λ hi=>⟨ah hi y.1,λ I=>d0 _ (ah hi (Aa I).1)⟩
  have l0:L.n<p.n:=E▸uJ (by decide)
  have l1:∀c,c<6->L.n+1+c<p.n:=λ c C=>by rw[E,gp];exact kY (kY C 1) _
  exact⟨(y.2 _ l0).trans z,λ c C=>(y.2 _ (l1 c C)).trans (U c C),t l0,λ c C=>t (l1 c C)⟩
 refine(?_:wSs J pg (d+19) ((fF.drop 10).take 2++fF.drop 12) _ _ _)
 refine RE (d:=d+14) H M g r a λ m O q n1 f ep ⟨e,op⟩ o j N=> ?_
 exact RF (d:=d+14) H (Dj ns M _) op o j N λ D=>rfl
theorem RH:PySem.Challenge.rw_qh0029_02.wellSaid=true:=by kernel_rfl
noncomputable abbrev Yn:RowW:=PySem.Challenge.rw_qh0029_02.row.toRowW
theorem KU:∀ns:List Int,ns.length<=63->∀J,pn J->aH J 60 (.glob tC) [.list (ns.map .int)] [] [] (λ v D=>v= .bool true) NR:=λ ns w J H=>Ox (d:=40) H w
set_option maxHeartbeats 0 in
theorem T2:PySem.Challenge.rw_qh0029_02.Holds:=by
 refine holds_law RH λ U5=> ?_
 refine PySem.W.holds_open (q:=OW) (loose:=E3) (Xt:=λ s=>xlAt OW [] s&&recOk (RowW.records Yn) s) (XP:=XL OW []) (Yf:=Hook.obs HK) (Ya:=Hook.val HK) (YP:=Hook.says HK) (N:=4352) OX (Hook.of HK) (Hook.keeps HK) (λ s e=>xl_of s (Bool.and_eq_true_iff.mp e).1) XL.keeps (by rfl) (by rfl) (by rfl) (λ s e=>recFacts_of (Bool.and_eq_true_iff.mp e).2) (by rfl) U5 (by decide+kernel) ⟨rfl,rfl,rfl,rfl,rfl,by decide+kernel⟩ ?hw ?hc
 case hw=>w_witness2
 case hc=>
  w_strict (
      k_fill
      intro w fz aq mg mb G Y fa o pm cd doc dV kV ho hd YC hD Ub hg args vals as U6 U7 UX Sf Yo
      have KX:=km_in_of Y
      km_tabs Y
      refine Ground.open G ?_
      intro T B D TE TW
      wrow_args U6 U7 UX Sf Yo
      refine enter_call ?_
      rename_i ns _ _ _ _ _ _ _ _ _ _ _ _ hw _ _ _ hn _
      refine codeAny_mono (Mine.Kh (K:=hp w.params) rfl KX (hT8 266 (by simp)) T.g T.b T.builtins T.bmain Ub hg hw (Mine.KU ns (by omega))) ?_
      intro r s' hr
      obtain⟨rfl,h1,h2,h3⟩:=hr
      refine⟨.inl ⟨_,_,[],rfl,?_,ReadsW.bool true,?_,λ _=>⟨List.nodup_nil,λ _ hm=>(nomatch hm)⟩⟩,h1,h2,AllBare.of_eq h3⟩
      ·intro cls;rfl
      ·kernel_rfl)
end
end Mine
theorem PySem.Challenge.cw_qh0029_02_holds : PySem.Challenge.rw_qh0029_02.Holds :=
 Mine.T2
