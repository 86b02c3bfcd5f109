import PyProof.Rows.All
import Wide.All
import OpenK.AllK
import Wide.FinOn
import Lean
import PySem.Challenge.RW_ij0113_01
set_option Elab.async false
set_option linter.all false
set_option compiler.extract_closed false
section
set_option maxHeartbeats 200000
open PySem PySem.W PyProof.Rows
set_option maxRecDepth 1000000
namespace Mine
noncomputable section
noncomputable abbrev pw : Program := PySem.Challenge.pw_ij0113_01
noncomputable def stAt (i : Nat) : Stmt := (pw.main.body[i]?).getD (.Pass ⟨0, 0, 0, 0⟩)
noncomputable def fdP : Stmt → Arguments | .FunctionDef _ a .. => a | _ => { posonlyargs := [], args := [], vararg := none, kwonlyargs := [], kw_defaults := [], kwarg := none, defaults := [] }
noncomputable def fdB : Stmt → FuncBody | .FunctionDef _ _ b .. => .stmts b | _ => .stmts []
noncomputable def fdS : Stmt → Scope | .FunctionDef _ _ _ _ _ _ s .. => s | _ => default
noncomputable def clS : Stmt → Nat → Stmt | .ClassDef _ _ _ b .., i => (b[i]?).getD (.Pass ⟨0, 0, 0, 0⟩) | s, _ => s
noncomputable def boot_life : Life := {}
noncomputable def envT : Env := { scope := pw.main.scope, locals := mainNs, globals := mainNs, cells := [], code := .ref 13, frame := some 14 }
noncomputable def sts (a b : Nat) : List Stmt := (pw.main.body.take b).drop a
noncomputable def cT : Code := .body (behindTheImports pw) envT
noncomputable def p0 : Pos := ⟨0, 0, 0, 0⟩
noncomputable def de (k : Int) (t : Tok) (s : String) (u : Tok) : DictEntry := ⟨k, .int k t, .str (Str.ofString s) u⟩
noncomputable def bigEs : List DictEntry := [de 181 368 "μ" 369,
  de 223 371 "ss" 372,
  de 304 374 "i̇" 375,
  de 329 377 "ʼn" 378,
  de 383 380 "s" 381,
  de 496 383 "ǰ" 384,
  de 837 386 "ι" 387,
  de 890 389 " ι" 390,
  de 912 392 "ΐ" 393,
  de 944 395 "ΰ" 396,
  de 962 398 "σ" 399,
  de 976 401 "β" 402,
  de 977 404 "θ" 405,
  de 978 407 "υ" 408,
  de 979 410 "ύ" 411,
  de 980 413 "ϋ" 414,
  de 981 416 "φ" 417,
  de 982 419 "π" 420,
  de 1008 422 "κ" 423,
  de 1009 425 "ρ" 426,
  de 1010 428 "σ" 429,
  de 1013 431 "ε" 432,
  de 1415 434 "եւ" 435,
  de 7830 437 "ẖ" 438,
  de 7831 440 "ẗ" 441,
  de 7832 443 "ẘ" 444,
  de 7833 446 "ẙ" 447,
  de 7834 449 "aʾ" 450,
  de 7835 452 "ṡ" 453,
  de 8016 455 "ὐ" 456,
  de 8018 458 "ὒ" 459,
  de 8020 461 "ὔ" 462,
  de 8022 464 "ὖ" 465,
  de 8064 467 "ἀι" 468,
  de 8065 470 "ἁι" 471,
  de 8066 473 "ἂι" 474,
  de 8067 476 "ἃι" 477,
  de 8068 479 "ἄι" 480,
  de 8069 482 "ἅι" 483,
  de 8070 485 "ἆι" 486,
  de 8071 488 "ἇι" 489,
  de 8072 491 "ἀι" 492,
  de 8073 494 "ἁι" 495,
  de 8074 497 "ἂι" 498,
  de 8075 500 "ἃι" 501,
  de 8076 503 "ἄι" 504,
  de 8077 506 "ἅι" 507,
  de 8078 509 "ἆι" 510,
  de 8079 512 "ἇι" 513,
  de 8080 515 "ἠι" 516,
  de 8081 518 "ἡι" 519,
  de 8082 521 "ἢι" 522,
  de 8083 524 "ἣι" 525,
  de 8084 527 "ἤι" 528,
  de 8085 530 "ἥι" 531,
  de 8086 533 "ἦι" 534,
  de 8087 536 "ἧι" 537,
  de 8088 539 "ἠι" 540,
  de 8089 542 "ἡι" 543,
  de 8090 545 "ἢι" 546,
  de 8091 548 "ἣι" 549,
  de 8092 551 "ἤι" 552,
  de 8093 554 "ἥι" 555,
  de 8094 557 "ἦι" 558,
  de 8095 560 "ἧι" 561,
  de 8096 563 "ὠι" 564,
  de 8097 566 "ὡι" 567,
  de 8098 569 "ὢι" 570,
  de 8099 572 "ὣι" 573,
  de 8100 575 "ὤι" 576,
  de 8101 578 "ὥι" 579,
  de 8102 581 "ὦι" 582,
  de 8103 584 "ὧι" 585,
  de 8104 587 "ὠι" 588,
  de 8105 590 "ὡι" 591,
  de 8106 593 "ὢι" 594,
  de 8107 596 "ὣι" 597,
  de 8108 599 "ὤι" 600,
  de 8109 602 "ὥι" 603,
  de 8110 605 "ὦι" 606,
  de 8111 608 "ὧι" 609,
  de 8114 611 "ὰι" 612,
  de 8115 614 "αι" 615,
  de 8116 617 "άι" 618,
  de 8118 620 "ᾶ" 621,
  de 8119 623 "ᾶι" 624,
  de 8124 626 "αι" 627,
  de 8126 629 "ι" 630,
  de 8130 632 "ὴι" 633,
  de 8131 635 "ηι" 636,
  de 8132 638 "ήι" 639,
  de 8134 641 "ῆ" 642,
  de 8135 644 "ῆι" 645,
  de 8140 647 "ηι" 648,
  de 8146 650 "ῒ" 651,
  de 8147 653 "ΐ" 654,
  de 8150 656 "ῖ" 657,
  de 8151 659 "ῗ" 660,
  de 8162 662 "ῢ" 663,
  de 8163 665 "ΰ" 666,
  de 8164 668 "ῤ" 669,
  de 8166 671 "ῦ" 672,
  de 8167 674 "ῧ" 675,
  de 8178 677 "ὼι" 678,
  de 8179 680 "ωι" 681,
  de 8180 683 "ώι" 684,
  de 8182 686 "ῶ" 687,
  de 8183 689 "ῶι" 690,
  de 8188 692 "ωι" 693,
  de 8360 695 "rs" 696,
  de 8450 698 "c" 699,
  de 8451 701 "°c" 702,
  de 8455 704 "ɛ" 705,
  de 8457 707 "°f" 708,
  de 8459 710 "h" 711,
  de 8460 713 "h" 714,
  de 8461 716 "h" 717,
  de 8464 719 "i" 720,
  de 8465 722 "i" 723,
  de 8466 725 "l" 726,
  de 8469 728 "n" 729,
  de 8470 731 "no" 732,
  de 8473 734 "p" 735,
  de 8474 737 "q" 738,
  de 8475 740 "r" 741,
  de 8476 743 "r" 744,
  de 8477 746 "r" 747,
  de 8480 749 "sm" 750,
  de 8481 752 "tel" 753,
  de 8482 755 "tm" 756,
  de 8484 758 "z" 759,
  de 8488 761 "z" 762,
  de 8492 764 "b" 765,
  de 8493 767 "c" 768,
  de 8496 770 "e" 771,
  de 8497 773 "f" 774,
  de 8499 776 "m" 777,
  de 8510 779 "γ" 780,
  de 8511 782 "π" 783,
  de 8517 785 "d" 786,
  de 13169 788 "hpa" 789,
  de 13171 791 "au" 792,
  de 13173 794 "ov" 795,
  de 13184 797 "pa" 798,
  de 13185 800 "na" 801,
  de 13186 803 "μa" 804,
  de 13187 806 "ma" 807,
  de 13188 809 "ka" 810,
  de 13189 812 "kb" 813,
  de 13190 815 "mb" 816,
  de 13191 818 "gb" 819,
  de 13194 821 "pf" 822,
  de 13195 824 "nf" 825,
  de 13196 827 "μf" 828,
  de 13200 830 "hz" 831,
  de 13201 833 "khz" 834,
  de 13202 836 "mhz" 837,
  de 13203 839 "ghz" 840,
  de 13204 842 "thz" 843,
  de 13225 845 "pa" 846,
  de 13226 848 "kpa" 849,
  de 13227 851 "mpa" 852,
  de 13228 854 "gpa" 855,
  de 13236 857 "pv" 858,
  de 13237 860 "nv" 861,
  de 13238 863 "μv" 864,
  de 13239 866 "mv" 867,
  de 13240 869 "kv" 870,
  de 13241 872 "mv" 873,
  de 13242 875 "pw" 876,
  de 13243 878 "nw" 879,
  de 13244 881 "μw" 882,
  de 13245 884 "mw" 885,
  de 13246 887 "kw" 888,
  de 13247 890 "mw" 891,
  de 13248 893 "kω" 894,
  de 13249 896 "mω" 897,
  de 13251 899 "bq" 900,
  de 13254 902 "c∕kg" 903,
  de 13255 905 "co." 906,
  de 13256 908 "db" 909,
  de 13257 911 "gy" 912,
  de 13259 914 "hp" 915,
  de 13261 917 "kk" 918,
  de 13262 920 "km" 921,
  de 13271 923 "ph" 924,
  de 13273 926 "ppm" 927,
  de 13274 929 "pr" 930,
  de 13276 932 "sv" 933,
  de 13277 935 "wb" 936,
  de 64256 938 "ff" 939,
  de 64257 941 "fi" 942,
  de 64258 944 "fl" 945,
  de 64259 947 "ffi" 948,
  de 64260 950 "ffl" 951,
  de 64261 953 "st" 954,
  de 64262 956 "st" 957,
  de 64275 959 "մն" 960,
  de 64276 962 "մե" 963,
  de 64277 965 "մի" 966,
  de 64278 968 "վն" 969,
  de 64279 971 "մխ" 972,
  de 119808 974 "a" 975,
  de 119809 977 "b" 978,
  de 119810 980 "c" 981,
  de 119811 983 "d" 984,
  de 119812 986 "e" 987,
  de 119813 989 "f" 990,
  de 119814 992 "g" 993,
  de 119815 995 "h" 996,
  de 119816 998 "i" 999,
  de 119817 1001 "j" 1002,
  de 119818 1004 "k" 1005,
  de 119819 1007 "l" 1008,
  de 119820 1010 "m" 1011,
  de 119821 1013 "n" 1014,
  de 119822 1016 "o" 1017,
  de 119823 1019 "p" 1020,
  de 119824 1022 "q" 1023,
  de 119825 1025 "r" 1026,
  de 119826 1028 "s" 1029,
  de 119827 1031 "t" 1032,
  de 119828 1034 "u" 1035,
  de 119829 1037 "v" 1038,
  de 119830 1040 "w" 1041,
  de 119831 1043 "x" 1044,
  de 119832 1046 "y" 1047,
  de 119833 1049 "z" 1050,
  de 119860 1052 "a" 1053,
  de 119861 1055 "b" 1056,
  de 119862 1058 "c" 1059,
  de 119863 1061 "d" 1062,
  de 119864 1064 "e" 1065,
  de 119865 1067 "f" 1068,
  de 119866 1070 "g" 1071,
  de 119867 1073 "h" 1074,
  de 119868 1076 "i" 1077,
  de 119869 1079 "j" 1080,
  de 119870 1082 "k" 1083,
  de 119871 1085 "l" 1086,
  de 119872 1088 "m" 1089,
  de 119873 1091 "n" 1092,
  de 119874 1094 "o" 1095,
  de 119875 1097 "p" 1098,
  de 119876 1100 "q" 1101,
  de 119877 1103 "r" 1104,
  de 119878 1106 "s" 1107,
  de 119879 1109 "t" 1110,
  de 119880 1112 "u" 1113,
  de 119881 1115 "v" 1116,
  de 119882 1118 "w" 1119,
  de 119883 1121 "x" 1122,
  de 119884 1124 "y" 1125,
  de 119885 1127 "z" 1128,
  de 119912 1130 "a" 1131,
  de 119913 1133 "b" 1134,
  de 119914 1136 "c" 1137,
  de 119915 1139 "d" 1140,
  de 119916 1142 "e" 1143,
  de 119917 1145 "f" 1146,
  de 119918 1148 "g" 1149,
  de 119919 1151 "h" 1152,
  de 119920 1154 "i" 1155,
  de 119921 1157 "j" 1158,
  de 119922 1160 "k" 1161,
  de 119923 1163 "l" 1164,
  de 119924 1166 "m" 1167,
  de 119925 1169 "n" 1170,
  de 119926 1172 "o" 1173,
  de 119927 1175 "p" 1176,
  de 119928 1178 "q" 1179,
  de 119929 1181 "r" 1182,
  de 119930 1184 "s" 1185,
  de 119931 1187 "t" 1188,
  de 119932 1190 "u" 1191,
  de 119933 1193 "v" 1194,
  de 119934 1196 "w" 1197,
  de 119935 1199 "x" 1200,
  de 119936 1202 "y" 1203,
  de 119937 1205 "z" 1206,
  de 119964 1208 "a" 1209,
  de 119966 1211 "c" 1212,
  de 119967 1214 "d" 1215,
  de 119970 1217 "g" 1218,
  de 119973 1220 "j" 1221,
  de 119974 1223 "k" 1224,
  de 119977 1226 "n" 1227,
  de 119978 1229 "o" 1230,
  de 119979 1232 "p" 1233,
  de 119980 1235 "q" 1236,
  de 119982 1238 "s" 1239,
  de 119983 1241 "t" 1242,
  de 119984 1244 "u" 1245,
  de 119985 1247 "v" 1248,
  de 119986 1250 "w" 1251,
  de 119987 1253 "x" 1254,
  de 119988 1256 "y" 1257,
  de 119989 1259 "z" 1260,
  de 120016 1262 "a" 1263,
  de 120017 1265 "b" 1266,
  de 120018 1268 "c" 1269,
  de 120019 1271 "d" 1272,
  de 120020 1274 "e" 1275,
  de 120021 1277 "f" 1278,
  de 120022 1280 "g" 1281,
  de 120023 1283 "h" 1284,
  de 120024 1286 "i" 1287,
  de 120025 1289 "j" 1290,
  de 120026 1292 "k" 1293,
  de 120027 1295 "l" 1296,
  de 120028 1298 "m" 1299,
  de 120029 1301 "n" 1302,
  de 120030 1304 "o" 1305,
  de 120031 1307 "p" 1308,
  de 120032 1310 "q" 1311,
  de 120033 1313 "r" 1314,
  de 120034 1316 "s" 1317,
  de 120035 1319 "t" 1320,
  de 120036 1322 "u" 1323,
  de 120037 1325 "v" 1326,
  de 120038 1328 "w" 1329,
  de 120039 1331 "x" 1332,
  de 120040 1334 "y" 1335,
  de 120041 1337 "z" 1338,
  de 120068 1340 "a" 1341,
  de 120069 1343 "b" 1344,
  de 120071 1346 "d" 1347,
  de 120072 1349 "e" 1350,
  de 120073 1352 "f" 1353,
  de 120074 1355 "g" 1356,
  de 120077 1358 "j" 1359,
  de 120078 1361 "k" 1362,
  de 120079 1364 "l" 1365,
  de 120080 1367 "m" 1368,
  de 120081 1370 "n" 1371,
  de 120082 1373 "o" 1374,
  de 120083 1376 "p" 1377,
  de 120084 1379 "q" 1380,
  de 120086 1382 "s" 1383,
  de 120087 1385 "t" 1386,
  de 120088 1388 "u" 1389,
  de 120089 1391 "v" 1392,
  de 120090 1394 "w" 1395,
  de 120091 1397 "x" 1398,
  de 120092 1400 "y" 1401,
  de 120120 1403 "a" 1404,
  de 120121 1406 "b" 1407,
  de 120123 1409 "d" 1410,
  de 120124 1412 "e" 1413,
  de 120125 1415 "f" 1416,
  de 120126 1418 "g" 1419,
  de 120128 1421 "i" 1422,
  de 120129 1424 "j" 1425,
  de 120130 1427 "k" 1428,
  de 120131 1430 "l" 1431,
  de 120132 1433 "m" 1434,
  de 120134 1436 "o" 1437,
  de 120138 1439 "s" 1440,
  de 120139 1442 "t" 1443,
  de 120140 1445 "u" 1446,
  de 120141 1448 "v" 1449,
  de 120142 1451 "w" 1452,
  de 120143 1454 "x" 1455,
  de 120144 1457 "y" 1458,
  de 120172 1460 "a" 1461,
  de 120173 1463 "b" 1464,
  de 120174 1466 "c" 1467,
  de 120175 1469 "d" 1470,
  de 120176 1472 "e" 1473,
  de 120177 1475 "f" 1476,
  de 120178 1478 "g" 1479,
  de 120179 1481 "h" 1482,
  de 120180 1484 "i" 1485,
  de 120181 1487 "j" 1488,
  de 120182 1490 "k" 1491,
  de 120183 1493 "l" 1494,
  de 120184 1496 "m" 1497,
  de 120185 1499 "n" 1500,
  de 120186 1502 "o" 1503,
  de 120187 1505 "p" 1506,
  de 120188 1508 "q" 1509,
  de 120189 1511 "r" 1512,
  de 120190 1514 "s" 1515,
  de 120191 1517 "t" 1518,
  de 120192 1520 "u" 1521,
  de 120193 1523 "v" 1524,
  de 120194 1526 "w" 1527,
  de 120195 1529 "x" 1530,
  de 120196 1532 "y" 1533,
  de 120197 1535 "z" 1536,
  de 120224 1538 "a" 1539,
  de 120225 1541 "b" 1542,
  de 120226 1544 "c" 1545,
  de 120227 1547 "d" 1548,
  de 120228 1550 "e" 1551,
  de 120229 1553 "f" 1554,
  de 120230 1556 "g" 1557,
  de 120231 1559 "h" 1560,
  de 120232 1562 "i" 1563,
  de 120233 1565 "j" 1566,
  de 120234 1568 "k" 1569,
  de 120235 1571 "l" 1572,
  de 120236 1574 "m" 1575,
  de 120237 1577 "n" 1578,
  de 120238 1580 "o" 1581,
  de 120239 1583 "p" 1584,
  de 120240 1586 "q" 1587,
  de 120241 1589 "r" 1590,
  de 120242 1592 "s" 1593,
  de 120243 1595 "t" 1596,
  de 120244 1598 "u" 1599,
  de 120245 1601 "v" 1602,
  de 120246 1604 "w" 1605,
  de 120247 1607 "x" 1608,
  de 120248 1610 "y" 1611,
  de 120249 1613 "z" 1614,
  de 120276 1616 "a" 1617,
  de 120277 1619 "b" 1620,
  de 120278 1622 "c" 1623,
  de 120279 1625 "d" 1626,
  de 120280 1628 "e" 1629,
  de 120281 1631 "f" 1632,
  de 120282 1634 "g" 1635,
  de 120283 1637 "h" 1638,
  de 120284 1640 "i" 1641,
  de 120285 1643 "j" 1644,
  de 120286 1646 "k" 1647,
  de 120287 1649 "l" 1650,
  de 120288 1652 "m" 1653,
  de 120289 1655 "n" 1656,
  de 120290 1658 "o" 1659,
  de 120291 1661 "p" 1662,
  de 120292 1664 "q" 1665,
  de 120293 1667 "r" 1668,
  de 120294 1670 "s" 1671,
  de 120295 1673 "t" 1674,
  de 120296 1676 "u" 1677,
  de 120297 1679 "v" 1680,
  de 120298 1682 "w" 1683,
  de 120299 1685 "x" 1686,
  de 120300 1688 "y" 1689,
  de 120301 1691 "z" 1692,
  de 120328 1694 "a" 1695,
  de 120329 1697 "b" 1698,
  de 120330 1700 "c" 1701,
  de 120331 1703 "d" 1704,
  de 120332 1706 "e" 1707,
  de 120333 1709 "f" 1710,
  de 120334 1712 "g" 1713,
  de 120335 1715 "h" 1716,
  de 120336 1718 "i" 1719,
  de 120337 1721 "j" 1722,
  de 120338 1724 "k" 1725,
  de 120339 1727 "l" 1728,
  de 120340 1730 "m" 1731,
  de 120341 1733 "n" 1734,
  de 120342 1736 "o" 1737,
  de 120343 1739 "p" 1740,
  de 120344 1742 "q" 1743,
  de 120345 1745 "r" 1746,
  de 120346 1748 "s" 1749,
  de 120347 1751 "t" 1752,
  de 120348 1754 "u" 1755,
  de 120349 1757 "v" 1758,
  de 120350 1760 "w" 1761,
  de 120351 1763 "x" 1764,
  de 120352 1766 "y" 1767,
  de 120353 1769 "z" 1770,
  de 120380 1772 "a" 1773,
  de 120381 1775 "b" 1776,
  de 120382 1778 "c" 1779,
  de 120383 1781 "d" 1782,
  de 120384 1784 "e" 1785,
  de 120385 1787 "f" 1788,
  de 120386 1790 "g" 1791,
  de 120387 1793 "h" 1794,
  de 120388 1796 "i" 1797,
  de 120389 1799 "j" 1800,
  de 120390 1802 "k" 1803,
  de 120391 1805 "l" 1806,
  de 120392 1808 "m" 1809,
  de 120393 1811 "n" 1812,
  de 120394 1814 "o" 1815,
  de 120395 1817 "p" 1818,
  de 120396 1820 "q" 1821,
  de 120397 1823 "r" 1824,
  de 120398 1826 "s" 1827,
  de 120399 1829 "t" 1830,
  de 120400 1832 "u" 1833,
  de 120401 1835 "v" 1836,
  de 120402 1838 "w" 1839,
  de 120403 1841 "x" 1842,
  de 120404 1844 "y" 1845,
  de 120405 1847 "z" 1848,
  de 120432 1850 "a" 1851,
  de 120433 1853 "b" 1854,
  de 120434 1856 "c" 1857,
  de 120435 1859 "d" 1860,
  de 120436 1862 "e" 1863,
  de 120437 1865 "f" 1866,
  de 120438 1868 "g" 1869,
  de 120439 1871 "h" 1872,
  de 120440 1874 "i" 1875,
  de 120441 1877 "j" 1878,
  de 120442 1880 "k" 1881,
  de 120443 1883 "l" 1884,
  de 120444 1886 "m" 1887,
  de 120445 1889 "n" 1890,
  de 120446 1892 "o" 1893,
  de 120447 1895 "p" 1896,
  de 120448 1898 "q" 1899,
  de 120449 1901 "r" 1902,
  de 120450 1904 "s" 1905,
  de 120451 1907 "t" 1908,
  de 120452 1910 "u" 1911,
  de 120453 1913 "v" 1914,
  de 120454 1916 "w" 1917,
  de 120455 1919 "x" 1920,
  de 120456 1922 "y" 1923,
  de 120457 1925 "z" 1926,
  de 120488 1928 "α" 1929,
  de 120489 1931 "β" 1932,
  de 120490 1934 "γ" 1935,
  de 120491 1937 "δ" 1938,
  de 120492 1940 "ε" 1941,
  de 120493 1943 "ζ" 1944,
  de 120494 1946 "η" 1947,
  de 120495 1949 "θ" 1950,
  de 120496 1952 "ι" 1953,
  de 120497 1955 "κ" 1956,
  de 120498 1958 "λ" 1959,
  de 120499 1961 "μ" 1962,
  de 120500 1964 "ν" 1965,
  de 120501 1967 "ξ" 1968,
  de 120502 1970 "ο" 1971,
  de 120503 1973 "π" 1974,
  de 120504 1976 "ρ" 1977,
  de 120505 1979 "θ" 1980,
  de 120506 1982 "σ" 1983,
  de 120507 1985 "τ" 1986,
  de 120508 1988 "υ" 1989,
  de 120509 1991 "φ" 1992,
  de 120510 1994 "χ" 1995,
  de 120511 1997 "ψ" 1998,
  de 120512 2000 "ω" 2001,
  de 120531 2003 "σ" 2004,
  de 120546 2006 "α" 2007,
  de 120547 2009 "β" 2010,
  de 120548 2012 "γ" 2013,
  de 120549 2015 "δ" 2016,
  de 120550 2018 "ε" 2019,
  de 120551 2021 "ζ" 2022,
  de 120552 2024 "η" 2025,
  de 120553 2027 "θ" 2028,
  de 120554 2030 "ι" 2031,
  de 120555 2033 "κ" 2034,
  de 120556 2036 "λ" 2037,
  de 120557 2039 "μ" 2040,
  de 120558 2042 "ν" 2043,
  de 120559 2045 "ξ" 2046,
  de 120560 2048 "ο" 2049,
  de 120561 2051 "π" 2052,
  de 120562 2054 "ρ" 2055,
  de 120563 2057 "θ" 2058,
  de 120564 2060 "σ" 2061,
  de 120565 2063 "τ" 2064,
  de 120566 2066 "υ" 2067,
  de 120567 2069 "φ" 2070,
  de 120568 2072 "χ" 2073,
  de 120569 2075 "ψ" 2076,
  de 120570 2078 "ω" 2079,
  de 120589 2081 "σ" 2082,
  de 120604 2084 "α" 2085,
  de 120605 2087 "β" 2088,
  de 120606 2090 "γ" 2091,
  de 120607 2093 "δ" 2094,
  de 120608 2096 "ε" 2097,
  de 120609 2099 "ζ" 2100,
  de 120610 2102 "η" 2103,
  de 120611 2105 "θ" 2106,
  de 120612 2108 "ι" 2109,
  de 120613 2111 "κ" 2112,
  de 120614 2114 "λ" 2115,
  de 120615 2117 "μ" 2118,
  de 120616 2120 "ν" 2121,
  de 120617 2123 "ξ" 2124,
  de 120618 2126 "ο" 2127,
  de 120619 2129 "π" 2130,
  de 120620 2132 "ρ" 2133,
  de 120621 2135 "θ" 2136,
  de 120622 2138 "σ" 2139,
  de 120623 2141 "τ" 2142,
  de 120624 2144 "υ" 2145,
  de 120625 2147 "φ" 2148,
  de 120626 2150 "χ" 2151,
  de 120627 2153 "ψ" 2154,
  de 120628 2156 "ω" 2157,
  de 120647 2159 "σ" 2160,
  de 120662 2162 "α" 2163,
  de 120663 2165 "β" 2166,
  de 120664 2168 "γ" 2169,
  de 120665 2171 "δ" 2172,
  de 120666 2174 "ε" 2175,
  de 120667 2177 "ζ" 2178,
  de 120668 2180 "η" 2181,
  de 120669 2183 "θ" 2184,
  de 120670 2186 "ι" 2187,
  de 120671 2189 "κ" 2190,
  de 120672 2192 "λ" 2193,
  de 120673 2195 "μ" 2196,
  de 120674 2198 "ν" 2199,
  de 120675 2201 "ξ" 2202,
  de 120676 2204 "ο" 2205,
  de 120677 2207 "π" 2208,
  de 120678 2210 "ρ" 2211,
  de 120679 2213 "θ" 2214,
  de 120680 2216 "σ" 2217,
  de 120681 2219 "τ" 2220,
  de 120682 2222 "υ" 2223,
  de 120683 2225 "φ" 2226,
  de 120684 2228 "χ" 2229,
  de 120685 2231 "ψ" 2232,
  de 120686 2234 "ω" 2235,
  de 120705 2237 "σ" 2238,
  de 120720 2240 "α" 2241,
  de 120721 2243 "β" 2244,
  de 120722 2246 "γ" 2247,
  de 120723 2249 "δ" 2250,
  de 120724 2252 "ε" 2253,
  de 120725 2255 "ζ" 2256,
  de 120726 2258 "η" 2259,
  de 120727 2261 "θ" 2262,
  de 120728 2264 "ι" 2265,
  de 120729 2267 "κ" 2268,
  de 120730 2270 "λ" 2271,
  de 120731 2273 "μ" 2274,
  de 120732 2276 "ν" 2277,
  de 120733 2279 "ξ" 2280,
  de 120734 2282 "ο" 2283,
  de 120735 2285 "π" 2286,
  de 120736 2288 "ρ" 2289,
  de 120737 2291 "θ" 2292,
  de 120738 2294 "σ" 2295,
  de 120739 2297 "τ" 2298,
  de 120740 2300 "υ" 2301,
  de 120741 2303 "φ" 2304,
  de 120742 2306 "χ" 2307,
  de 120743 2308 "ψ" 2309,
  de 120744 2310 "ω" 2311,
  de 120763 2312 "σ" 2313]
noncomputable def oBig (_ : Params) : Obj := ⟨.type "dict", none, .dict bigEs.toArray 650, #[]⟩
noncomputable def oSub (i : Nat) (_ : Params) : Obj := ⟨.type "dict", none, .dict ((bigEs.drop (17 * (i + 1))).take 17).toArray ((bigEs.drop (17 * (i + 1))).take 17).length, #[]⟩
noncomputable def o11_0 (P : Params) : Obj := Obj.mk (Value.type "tuple") none (Data.seq #[]) #[]
noncomputable def o12_0 (P : Params) : Obj := Obj.mk Value.none none (Data.fields #[]) #[]
noncomputable def o13_0 (P : Params) : Obj := Obj.mk (Value.type "code") none (Data.fields #[Value.str (Str.ofString "<module>") 182, Value.str (Str.ofString "<module>") 183, Value.str (Str.ofString "/claim/cut.py") 184, Value.int 1 0, Value.int 0 0, Value.int 0 0, Value.int 0 0, Value.int 0 0, Value.ref 11, Value.bool false, Value.int 181 0, Value.ref 12, Value.none, Value.none, Value.none, Value.none, Value.int 185 0, Value.int 1 0, Value.str (Str.ofString "/claim/cut.py") 186]) #[]
noncomputable def o14_0 (P : Params) : Obj := Obj.mk (Value.type "frame") none Data.plain #[some (Value.ref 13), some (Value.ref 3), some (Value.ref 3), none, some (Value.str (Str.ofString "__main__") 164), none, some (Value.ref 0)]
noncomputable def T0 (P : Params) : BT := (.node (boot_o_0 P) (.node (boot_o_1 P) (.node (boot_o_3 P) (.node (boot_o_7 P) .nil .nil) (.node (o11_0 P) .nil .nil)) (.node (boot_o_5 P) (.node (boot_o_9 P) .nil .nil) (.node (o13_0 P) .nil .nil))) (.node (boot_o_2 P) (.node (boot_o_4 P) (.node (boot_o_8 P) .nil .nil) (.node (o12_0 P) .nil .nil)) (.node (boot_o_6 P) (.node (boot_o_10 P) .nil .nil) (.node (o14_0 P) .nil .nil))))
noncomputable def S0 (w : World) (os : OsState) : SharedT := ⟨T0 w.params, 15, boot_life, #[], boot_drawn, 187, os⟩
noncomputable def o3_9 (P : Params) : Obj := Obj.mk (Value.type "dict") none (Data.dict #[DictEntry.mk (PyData.keyHash P (Str.ofString "__name__")) (Value.str (Str.ofString "__name__") 165) (Value.str (Str.ofString "itertools") 237), DictEntry.mk (PyData.keyHash P (Str.ofString "__doc__")) (Value.str (Str.ofString "__doc__") 166) Value.none, DictEntry.mk (PyData.keyHash P (Str.ofString "__package__")) (Value.str (Str.ofString "__package__") 167) Value.none, DictEntry.mk (PyData.keyHash P (Str.ofString "__loader__")) (Value.str (Str.ofString "__loader__") 168) (Value.builtin "__main__.__loader__#opaque"), DictEntry.mk (PyData.keyHash P (Str.ofString "__spec__")) (Value.str (Str.ofString "__spec__") 169) Value.none, DictEntry.mk (PyData.keyHash P (Str.ofString "__annotations__")) (Value.str (Str.ofString "__annotations__") 170) (Value.ref 6), DictEntry.mk (PyData.keyHash P (Str.ofString "__builtins__")) (Value.str (Str.ofString "__builtins__") 171) (Value.ref 4), DictEntry.mk (PyData.keyHash P (Str.ofString "__file__")) (Value.str (Str.ofString "__file__") 173) (Value.str (Str.ofString "/claim/cut.py") 172), DictEntry.mk (PyData.keyHash P (Str.ofString "__cached__")) (Value.str (Str.ofString "__cached__") 174) Value.none, DictEntry.mk (PyData.keyHash P (Str.ofString "_wall")) (Value.str (Str.ofString "_wall") 193) (Value.ref 21), DictEntry.mk (PyData.keyHash P (Str.ofString "sep")) (Value.str (Str.ofString "sep") 197) (Value.str (Str.ofString "/") 196), DictEntry.mk (PyData.keyHash P (Str.ofString "_kind")) (Value.str (Str.ofString "_kind") 206) (Value.ref 28), DictEntry.mk (PyData.keyHash P (Str.ofString "_fspath")) (Value.str (Str.ofString "_fspath") 215) (Value.ref 35), DictEntry.mk (PyData.keyHash P (Str.ofString "split")) (Value.str (Str.ofString "split") 226) (Value.ref 42), DictEntry.mk (PyData.keyHash P (Str.ofString "_ancestry")) (Value.str (Str.ofString "_ancestry") 236) (Value.ref 49)] 15) #[]
noncomputable def o12_9 (P : Params) : Obj := Obj.mk Value.none none (Data.fields #[Value.int 1 0, Value.int 0 0, Value.ref 20, Value.int 6 0, Value.int 0 0, Value.ref 27, Value.int 27 0, Value.int 0 0, Value.ref 34, Value.int 32 0, Value.int 0 0, Value.ref 41, Value.int 41 0, Value.int 0 0, Value.ref 48]) #[]
noncomputable def o15_9 (P : Params) : Obj := Obj.mk (Value.type "tuple") none (Data.seq #[]) #[]
noncomputable def o16_9 (P : Params) : Obj := Obj.mk Value.none none (Data.fields #[]) #[]
noncomputable def o17_9 (P : Params) : Obj := Obj.mk (Value.type "tuple") none (Data.seq #[Value.str (Str.ofString "k") 190]) #[]
noncomputable def o18_9 (P : Params) : Obj := Obj.mk (Value.type "tuple") none (Data.seq #[]) #[]
noncomputable def o19_9 (P : Params) : Obj := Obj.mk Value.none none (Data.func (FuncData.mk (Str.ofString "_wall") (Str.ofString "_wall") (fdP (stAt 0)) (fdB (stAt 0)) (fdS (stAt 0)) 0 [] Value.none Value.none Value.none Value.none none Value.none Value.none 0)) #[]
noncomputable def o20_9 (P : Params) : Obj := Obj.mk (Value.type "code") none (Data.fields #[Value.str (Str.ofString "_wall") 187, Value.str (Str.ofString "_wall") 188, Value.str (Str.ofString "/claim/cut.py") 189, Value.int 1 0, Value.int 1 0, Value.int 0 0, Value.int 0 0, Value.int 3 0, Value.ref 15, Value.bool true, Value.int 181 0, Value.ref 16, Value.none, Value.ref 17, Value.ref 18, Value.ref 19, Value.int 191 0, Value.int 1 0, Value.str (Str.ofString "/claim/cut.py") 192]) #[]
noncomputable def o21_9 (P : Params) : Obj := Obj.mk (Value.type "function") none (Data.func (FuncData.mk (Str.ofString "_wall") (Str.ofString "_wall") (fdP (stAt 0)) (fdB (stAt 0)) (fdS (stAt 0)) 3 [] Value.none Value.none Value.none (Value.str (Str.ofString "__main__") 164) none (Value.ref 20) Value.none 0)) #[]
noncomputable def o22_9 (P : Params) : Obj := Obj.mk (Value.type "tuple") none (Data.seq #[]) #[]
noncomputable def o23_9 (P : Params) : Obj := Obj.mk Value.none none (Data.fields #[]) #[]
noncomputable def o24_9 (P : Params) : Obj := Obj.mk (Value.type "tuple") none (Data.seq #[Value.str (Str.ofString "name") 201, Value.str (Str.ofString "x") 202, Value.str (Str.ofString "t") 203]) #[]
noncomputable def o25_9 (P : Params) : Obj := Obj.mk (Value.type "tuple") none (Data.seq #[]) #[]
noncomputable def o26_9 (P : Params) : Obj := Obj.mk Value.none none (Data.func (FuncData.mk (Str.ofString "_kind") (Str.ofString "_kind") (fdP (stAt 3)) (fdB (stAt 3)) (fdS (stAt 3)) 0 [] Value.none Value.none Value.none Value.none none Value.none Value.none 0)) #[]
noncomputable def o27_9 (P : Params) : Obj := Obj.mk (Value.type "code") none (Data.fields #[Value.str (Str.ofString "_kind") 198, Value.str (Str.ofString "_kind") 199, Value.str (Str.ofString "/claim/cut.py") 200, Value.int 6 0, Value.int 2 0, Value.int 0 0, Value.int 0 0, Value.int 3 0, Value.ref 22, Value.bool true, Value.int 181 0, Value.ref 23, Value.none, Value.ref 24, Value.ref 25, Value.ref 26, Value.int 204 0, Value.int 6 0, Value.str (Str.ofString "/claim/cut.py") 205]) #[]
noncomputable def o28_9 (P : Params) : Obj := Obj.mk (Value.type "function") none (Data.func (FuncData.mk (Str.ofString "_kind") (Str.ofString "_kind") (fdP (stAt 3)) (fdB (stAt 3)) (fdS (stAt 3)) 3 [] Value.none Value.none Value.none (Value.str (Str.ofString "posixpath") 194) none (Value.ref 27) Value.none 0)) #[]
noncomputable def o29_9 (P : Params) : Obj := Obj.mk (Value.type "tuple") none (Data.seq #[]) #[]
noncomputable def o30_9 (P : Params) : Obj := Obj.mk Value.none none (Data.fields #[]) #[]
noncomputable def o31_9 (P : Params) : Obj := Obj.mk (Value.type "tuple") none (Data.seq #[Value.str (Str.ofString "name") 210, Value.str (Str.ofString "x") 211, Value.str (Str.ofString "k") 212]) #[]
noncomputable def o32_9 (P : Params) : Obj := Obj.mk (Value.type "tuple") none (Data.seq #[]) #[]
noncomputable def o33_9 (P : Params) : Obj := Obj.mk Value.none none (Data.func (FuncData.mk (Str.ofString "_fspath") (Str.ofString "_fspath") (fdP (stAt 4)) (fdB (stAt 4)) (fdS (stAt 4)) 0 [] Value.none Value.none Value.none Value.none none Value.none Value.none 0)) #[]
noncomputable def o34_9 (P : Params) : Obj := Obj.mk (Value.type "code") none (Data.fields #[Value.str (Str.ofString "_fspath") 207, Value.str (Str.ofString "_fspath") 208, Value.str (Str.ofString "/claim/cut.py") 209, Value.int 27 0, Value.int 2 0, Value.int 0 0, Value.int 0 0, Value.int 3 0, Value.ref 29, Value.bool true, Value.int 181 0, Value.ref 30, Value.none, Value.ref 31, Value.ref 32, Value.ref 33, Value.int 213 0, Value.int 27 0, Value.str (Str.ofString "/claim/cut.py") 214]) #[]
noncomputable def o35_9 (P : Params) : Obj := Obj.mk (Value.type "function") none (Data.func (FuncData.mk (Str.ofString "_fspath") (Str.ofString "_fspath") (fdP (stAt 4)) (fdB (stAt 4)) (fdS (stAt 4)) 3 [] Value.none Value.none Value.none (Value.str (Str.ofString "posixpath") 194) none (Value.ref 34) Value.none 0)) #[]
noncomputable def o36_9 (P : Params) : Obj := Obj.mk (Value.type "tuple") none (Data.seq #[]) #[]
noncomputable def o37_9 (P : Params) : Obj := Obj.mk Value.none none (Data.fields #[]) #[]
noncomputable def o38_9 (P : Params) : Obj := Obj.mk (Value.type "tuple") none (Data.seq #[Value.str (Str.ofString "p") 219, Value.str (Str.ofString "sep") 220, Value.str (Str.ofString "i") 221, Value.str (Str.ofString "head") 222, Value.str (Str.ofString "tail") 223]) #[]
noncomputable def o39_9 (P : Params) : Obj := Obj.mk (Value.type "tuple") none (Data.seq #[]) #[]
noncomputable def o40_9 (P : Params) : Obj := Obj.mk Value.none none (Data.func (FuncData.mk (Str.ofString "split") (Str.ofString "split") (fdP (stAt 5)) (fdB (stAt 5)) (fdS (stAt 5)) 0 [] Value.none Value.none Value.none Value.none none Value.none Value.none 0)) #[]
noncomputable def o41_9 (P : Params) : Obj := Obj.mk (Value.type "code") none (Data.fields #[Value.str (Str.ofString "split") 216, Value.str (Str.ofString "split") 217, Value.str (Str.ofString "/claim/cut.py") 218, Value.int 32 0, Value.int 1 0, Value.int 0 0, Value.int 0 0, Value.int 3 0, Value.ref 36, Value.bool true, Value.int 181 0, Value.ref 37, Value.none, Value.ref 38, Value.ref 39, Value.ref 40, Value.int 224 0, Value.int 32 0, Value.str (Str.ofString "/claim/cut.py") 225]) #[]
noncomputable def o42_9 (P : Params) : Obj := Obj.mk (Value.type "function") none (Data.func (FuncData.mk (Str.ofString "split") (Str.ofString "split") (fdP (stAt 5)) (fdB (stAt 5)) (fdS (stAt 5)) 3 [] Value.none Value.none Value.none (Value.str (Str.ofString "posixpath") 194) none (Value.ref 41) Value.none 0)) #[]
noncomputable def o43_9 (P : Params) : Obj := Obj.mk (Value.type "tuple") none (Data.seq #[]) #[]
noncomputable def o44_9 (P : Params) : Obj := Obj.mk Value.none none (Data.fields #[]) #[]
noncomputable def o45_9 (P : Params) : Obj := Obj.mk (Value.type "tuple") none (Data.seq #[Value.str (Str.ofString "path") 232, Value.str (Str.ofString "tail") 233]) #[]
noncomputable def o46_9 (P : Params) : Obj := Obj.mk (Value.type "tuple") none (Data.seq #[]) #[]
noncomputable def o47_9 (P : Params) : Obj := Obj.mk Value.none none (Data.func (FuncData.mk (Str.ofString "_ancestry") (Str.ofString "_ancestry") (fdP (stAt 7)) (fdB (stAt 7)) (fdS (stAt 7)) 0 [] Value.none Value.none Value.none Value.none none Value.none Value.none 0)) #[]
noncomputable def o48_9 (P : Params) : Obj := Obj.mk (Value.type "code") none (Data.fields #[Value.str (Str.ofString "_ancestry") 229, Value.str (Str.ofString "_ancestry") 230, Value.str (Str.ofString "/claim/cut.py") 231, Value.int 41 0, Value.int 1 0, Value.int 0 0, Value.int 0 0, Value.int 35 0, Value.ref 43, Value.bool true, Value.int 181 0, Value.ref 44, Value.none, Value.ref 45, Value.ref 46, Value.ref 47, Value.int 234 0, Value.int 41 0, Value.str (Str.ofString "/claim/cut.py") 235]) #[]
noncomputable def o49_9 (P : Params) : Obj := Obj.mk (Value.type "function") none (Data.func (FuncData.mk (Str.ofString "_ancestry") (Str.ofString "_ancestry") (fdP (stAt 7)) (fdB (stAt 7)) (fdS (stAt 7)) 3 [] Value.none Value.none Value.none (Value.str (Str.ofString "cpy313.zipfile._path") 227) none (Value.ref 48) Value.none 0)) #[]
noncomputable def T1 (P : Params) : BT := (.node (boot_o_0 P) (.node (boot_o_1 P) (.node (o3_9 P) (.node (boot_o_7 P) (.node (o15_9 P) (.node (o31_9 P) .nil .nil) (.node (o47_9 P) .nil .nil)) (.node (o23_9 P) (.node (o39_9 P) .nil .nil) .nil)) (.node (o11_0 P) (.node (o19_9 P) (.node (o35_9 P) .nil .nil) .nil) (.node (o27_9 P) (.node (o43_9 P) .nil .nil) .nil))) (.node (boot_o_5 P) (.node (boot_o_9 P) (.node (o17_9 P) (.node (o33_9 P) .nil .nil) (.node (o49_9 P) .nil .nil)) (.node (o25_9 P) (.node (o41_9 P) .nil .nil) .nil)) (.node (o13_0 P) (.node (o21_9 P) (.node (o37_9 P) .nil .nil) .nil) (.node (o29_9 P) (.node (o45_9 P) .nil .nil) .nil)))) (.node (boot_o_2 P) (.node (boot_o_4 P) (.node (boot_o_8 P) (.node (o16_9 P) (.node (o32_9 P) .nil .nil) (.node (o48_9 P) .nil .nil)) (.node (o24_9 P) (.node (o40_9 P) .nil .nil) .nil)) (.node (o12_9 P) (.node (o20_9 P) (.node (o36_9 P) .nil .nil) .nil) (.node (o28_9 P) (.node (o44_9 P) .nil .nil) .nil))) (.node (boot_o_6 P) (.node (boot_o_10 P) (.node (o18_9 P) (.node (o34_9 P) .nil .nil) .nil) (.node (o26_9 P) (.node (o42_9 P) .nil .nil) .nil)) (.node (o14_0 P) (.node (o22_9 P) (.node (o38_9 P) .nil .nil) .nil) (.node (o30_9 P) (.node (o46_9 P) .nil .nil) .nil)))))
noncomputable def S1 (w : World) (os : OsState) : SharedT := ⟨T1 w.params, 50, boot_life, #[], boot_drawn, 239, os⟩
noncomputable def o3_10 (P : Params) : Obj := Obj.mk (Value.type "dict") none (Data.dict #[DictEntry.mk (PyData.keyHash P (Str.ofString "__name__")) (Value.str (Str.ofString "__name__") 165) (Value.str (Str.ofString "itertools") 237), DictEntry.mk (PyData.keyHash P (Str.ofString "__doc__")) (Value.str (Str.ofString "__doc__") 166) Value.none, DictEntry.mk (PyData.keyHash P (Str.ofString "__package__")) (Value.str (Str.ofString "__package__") 167) Value.none, DictEntry.mk (PyData.keyHash P (Str.ofString "__loader__")) (Value.str (Str.ofString "__loader__") 168) (Value.builtin "__main__.__loader__#opaque"), DictEntry.mk (PyData.keyHash P (Str.ofString "__spec__")) (Value.str (Str.ofString "__spec__") 169) Value.none, DictEntry.mk (PyData.keyHash P (Str.ofString "__annotations__")) (Value.str (Str.ofString "__annotations__") 170) (Value.ref 6), DictEntry.mk (PyData.keyHash P (Str.ofString "__builtins__")) (Value.str (Str.ofString "__builtins__") 171) (Value.ref 4), DictEntry.mk (PyData.keyHash P (Str.ofString "__file__")) (Value.str (Str.ofString "__file__") 173) (Value.str (Str.ofString "/claim/cut.py") 172), DictEntry.mk (PyData.keyHash P (Str.ofString "__cached__")) (Value.str (Str.ofString "__cached__") 174) Value.none, DictEntry.mk (PyData.keyHash P (Str.ofString "_wall")) (Value.str (Str.ofString "_wall") 193) (Value.ref 21), DictEntry.mk (PyData.keyHash P (Str.ofString "sep")) (Value.str (Str.ofString "sep") 197) (Value.str (Str.ofString "/") 196), DictEntry.mk (PyData.keyHash P (Str.ofString "_kind")) (Value.str (Str.ofString "_kind") 206) (Value.ref 28), DictEntry.mk (PyData.keyHash P (Str.ofString "_fspath")) (Value.str (Str.ofString "_fspath") 215) (Value.ref 35), DictEntry.mk (PyData.keyHash P (Str.ofString "split")) (Value.str (Str.ofString "split") 226) (Value.ref 42), DictEntry.mk (PyData.keyHash P (Str.ofString "_ancestry")) (Value.str (Str.ofString "_ancestry") 236) (Value.ref 49), DictEntry.mk (PyData.keyHash P (Str.ofString "filterfalse")) (Value.str (Str.ofString "filterfalse") 288) (Value.ref 82)] 16) #[]
noncomputable def o12_10 (P : Params) : Obj := Obj.mk Value.none none (Data.fields #[Value.int 1 0, Value.int 0 0, Value.ref 20, Value.int 6 0, Value.int 0 0, Value.ref 27, Value.int 27 0, Value.int 0 0, Value.ref 34, Value.int 32 0, Value.int 0 0, Value.ref 41, Value.int 41 0, Value.int 0 0, Value.ref 48, Value.int 47 0, Value.int 0 0, Value.ref 55]) #[]
noncomputable def o50_10 (P : Params) : Obj := Obj.mk (Value.type "tuple") none (Data.seq #[]) #[]
noncomputable def o51_10 (P : Params) : Obj := Obj.mk (Value.type "builtin_function_or_method") none (Data.fields #[Value.builtin "type.__prepare__", Value.type "type"]) #[]
noncomputable def o52_10 (P : Params) : Obj := Obj.mk (Value.type "dict") none (Data.dict #[DictEntry.mk (PyData.keyHash P (Str.ofString "__module__")) (Value.str (Str.ofString "__module__") 246) (Value.str (Str.ofString "itertools") 237), DictEntry.mk (PyData.keyHash P (Str.ofString "__qualname__")) (Value.str (Str.ofString "__qualname__") 248) (Value.str (Str.ofString "filterfalse") 247), DictEntry.mk (PyData.keyHash P (Str.ofString "__firstlineno__")) (Value.str (Str.ofString "__firstlineno__") 250) (Value.int 47 249), DictEntry.mk (PyData.keyHash P (Str.ofString "__slots__")) (Value.str (Str.ofString "__slots__") 253) (Value.ref 57), DictEntry.mk (PyData.keyHash P (Str.ofString "__init__")) (Value.str (Str.ofString "__init__") 262) (Value.ref 64), DictEntry.mk (PyData.keyHash P (Str.ofString "__iter__")) (Value.str (Str.ofString "__iter__") 269) (Value.ref 71), DictEntry.mk (PyData.keyHash P (Str.ofString "__next__")) (Value.str (Str.ofString "__next__") 278) (Value.ref 78), DictEntry.mk (PyData.keyHash P (Str.ofString "__static_attributes__")) (Value.str (Str.ofString "__static_attributes__") 281) (Value.ref 79)] 8) #[]
noncomputable def o53_10 (P : Params) : Obj := Obj.mk (Value.type "tuple") none (Data.seq #[]) #[]
noncomputable def o54_10 (P : Params) : Obj := Obj.mk Value.none none (Data.fields #[Value.int 50 0, Value.int 4 0, Value.ref 63, Value.int 54 0, Value.int 4 0, Value.ref 70, Value.int 57 0, Value.int 4 0, Value.ref 77]) #[]
noncomputable def o55_10 (P : Params) : Obj := Obj.mk (Value.type "code") none (Data.fields #[Value.str (Str.ofString "filterfalse") 241, Value.str (Str.ofString "filterfalse") 242, Value.str (Str.ofString "/claim/cut.py") 243, Value.int 47 0, Value.int 0 0, Value.int 0 0, Value.int 0 0, Value.int 0 0, Value.ref 53, Value.bool false, Value.int 181 0, Value.ref 54, Value.none, Value.none, Value.none, Value.none, Value.int 244 0, Value.int 47 0, Value.str (Str.ofString "/claim/cut.py") 245]) #[]
noncomputable def o56_10 (P : Params) : Obj := Obj.mk (Value.type "frame") none Data.plain #[some (Value.ref 55), some (Value.ref 3), some (Value.ref 52), none, some (Value.str (Str.ofString "itertools") 237), none, some (Value.ref 0)]
noncomputable def o57_10 (P : Params) : Obj := Obj.mk (Value.type "tuple") none (Data.seq #[Value.str (Str.ofString "_it") 251, Value.str (Str.ofString "_func") 252]) #[]
noncomputable def o58_10 (P : Params) : Obj := Obj.mk (Value.type "tuple") none (Data.seq #[]) #[]
noncomputable def o59_10 (P : Params) : Obj := Obj.mk Value.none none (Data.fields #[]) #[]
noncomputable def o60_10 (P : Params) : Obj := Obj.mk (Value.type "tuple") none (Data.seq #[Value.str (Str.ofString "self") 257, Value.str (Str.ofString "function") 258, Value.str (Str.ofString "iterable") 259]) #[]
noncomputable def o61_10 (P : Params) : Obj := Obj.mk (Value.type "tuple") none (Data.seq #[]) #[]
noncomputable def o62_10 (P : Params) : Obj := Obj.mk Value.none none (Data.func (FuncData.mk (Str.ofString "__init__") (Str.ofString "filterfalse.__init__") (fdP (clS (stAt 9) 1)) (fdB (clS (stAt 9) 1)) (fdS (clS (stAt 9) 1)) 0 [] Value.none Value.none Value.none Value.none none Value.none Value.none 0)) #[]
noncomputable def o63_10 (P : Params) : Obj := Obj.mk (Value.type "code") none (Data.fields #[Value.str (Str.ofString "__init__") 254, Value.str (Str.ofString "filterfalse.__init__") 255, Value.str (Str.ofString "/claim/cut.py") 256, Value.int 50 0, Value.int 3 0, Value.int 3 0, Value.int 0 0, Value.int 3 0, Value.ref 58, Value.bool true, Value.int 181 0, Value.ref 59, Value.none, Value.ref 60, Value.ref 61, Value.ref 62, Value.int 260 0, Value.int 50 0, Value.str (Str.ofString "/claim/cut.py") 261]) #[]
noncomputable def o64_10 (P : Params) : Obj := Obj.mk (Value.type "function") none (Data.func (FuncData.mk (Str.ofString "__init__") (Str.ofString "filterfalse.__init__") (fdP (clS (stAt 9) 1)) (fdB (clS (stAt 9) 1)) (fdS (clS (stAt 9) 1)) 3 [] Value.none Value.none Value.none (Value.str (Str.ofString "itertools") 237) none (Value.ref 63) Value.none 0)) #[]
noncomputable def o65_10 (P : Params) : Obj := Obj.mk (Value.type "tuple") none (Data.seq #[]) #[]
noncomputable def o66_10 (P : Params) : Obj := Obj.mk Value.none none (Data.fields #[]) #[]
noncomputable def o67_10 (P : Params) : Obj := Obj.mk (Value.type "tuple") none (Data.seq #[Value.str (Str.ofString "self") 266]) #[]
noncomputable def o68_10 (P : Params) : Obj := Obj.mk (Value.type "tuple") none (Data.seq #[]) #[]
noncomputable def o69_10 (P : Params) : Obj := Obj.mk Value.none none (Data.func (FuncData.mk (Str.ofString "__iter__") (Str.ofString "filterfalse.__iter__") (fdP (clS (stAt 9) 2)) (fdB (clS (stAt 9) 2)) (fdS (clS (stAt 9) 2)) 0 [] Value.none Value.none Value.none Value.none none Value.none Value.none 0)) #[]
noncomputable def o70_10 (P : Params) : Obj := Obj.mk (Value.type "code") none (Data.fields #[Value.str (Str.ofString "__iter__") 263, Value.str (Str.ofString "filterfalse.__iter__") 264, Value.str (Str.ofString "/claim/cut.py") 265, Value.int 54 0, Value.int 1 0, Value.int 0 0, Value.int 0 0, Value.int 3 0, Value.ref 65, Value.bool true, Value.int 181 0, Value.ref 66, Value.none, Value.ref 67, Value.ref 68, Value.ref 69, Value.int 267 0, Value.int 54 0, Value.str (Str.ofString "/claim/cut.py") 268]) #[]
noncomputable def o71_10 (P : Params) : Obj := Obj.mk (Value.type "function") none (Data.func (FuncData.mk (Str.ofString "__iter__") (Str.ofString "filterfalse.__iter__") (fdP (clS (stAt 9) 2)) (fdB (clS (stAt 9) 2)) (fdS (clS (stAt 9) 2)) 3 [] Value.none Value.none Value.none (Value.str (Str.ofString "itertools") 237) none (Value.ref 70) Value.none 0)) #[]
noncomputable def o72_10 (P : Params) : Obj := Obj.mk (Value.type "tuple") none (Data.seq #[]) #[]
noncomputable def o73_10 (P : Params) : Obj := Obj.mk Value.none none (Data.fields #[]) #[]
noncomputable def o74_10 (P : Params) : Obj := Obj.mk (Value.type "tuple") none (Data.seq #[Value.str (Str.ofString "self") 273, Value.str (Str.ofString "func") 274, Value.str (Str.ofString "item") 275]) #[]
noncomputable def o75_10 (P : Params) : Obj := Obj.mk (Value.type "tuple") none (Data.seq #[]) #[]
noncomputable def o76_10 (P : Params) : Obj := Obj.mk Value.none none (Data.func (FuncData.mk (Str.ofString "__next__") (Str.ofString "filterfalse.__next__") (fdP (clS (stAt 9) 3)) (fdB (clS (stAt 9) 3)) (fdS (clS (stAt 9) 3)) 0 [] Value.none Value.none Value.none Value.none none Value.none Value.none 0)) #[]
noncomputable def o77_10 (P : Params) : Obj := Obj.mk (Value.type "code") none (Data.fields #[Value.str (Str.ofString "__next__") 270, Value.str (Str.ofString "filterfalse.__next__") 271, Value.str (Str.ofString "/claim/cut.py") 272, Value.int 57 0, Value.int 1 0, Value.int 0 0, Value.int 0 0, Value.int 3 0, Value.ref 72, Value.bool true, Value.int 181 0, Value.ref 73, Value.none, Value.ref 74, Value.ref 75, Value.ref 76, Value.int 276 0, Value.int 57 0, Value.str (Str.ofString "/claim/cut.py") 277]) #[]
noncomputable def o78_10 (P : Params) : Obj := Obj.mk (Value.type "function") none (Data.func (FuncData.mk (Str.ofString "__next__") (Str.ofString "filterfalse.__next__") (fdP (clS (stAt 9) 3)) (fdB (clS (stAt 9) 3)) (fdS (clS (stAt 9) 3)) 3 [] Value.none Value.none Value.none (Value.str (Str.ofString "itertools") 237) none (Value.ref 77) Value.none 0)) #[]
noncomputable def o79_10 (P : Params) : Obj := Obj.mk (Value.type "tuple") none (Data.seq #[Value.str (Str.ofString "_func") 279, Value.str (Str.ofString "_it") 280]) #[]
noncomputable def o80_10 (P : Params) : Obj := Obj.mk (Value.type "list") none (Data.seq #[Value.str (Str.ofString "_it") 251, Value.str (Str.ofString "_func") 252] 1) #[]
noncomputable def o81_10 (P : Params) : Obj := Obj.mk (Value.type "dict") none (Data.dict #[DictEntry.mk (PyData.keyHash P (Str.ofString "__module__")) (Value.str (Str.ofString "__module__") 246) (Value.str (Str.ofString "itertools") 237), DictEntry.mk (PyData.keyHash P (Str.ofString "__firstlineno__")) (Value.str (Str.ofString "__firstlineno__") 250) (Value.int 47 249), DictEntry.mk (PyData.keyHash P (Str.ofString "__slots__")) (Value.str (Str.ofString "__slots__") 253) (Value.ref 57), DictEntry.mk (PyData.keyHash P (Str.ofString "__init__")) (Value.str (Str.ofString "__init__") 262) (Value.ref 64), DictEntry.mk (PyData.keyHash P (Str.ofString "__iter__")) (Value.str (Str.ofString "__iter__") 269) (Value.ref 71), DictEntry.mk (PyData.keyHash P (Str.ofString "__next__")) (Value.str (Str.ofString "__next__") 278) (Value.ref 78), DictEntry.mk (PyData.keyHash P (Str.ofString "__static_attributes__")) (Value.str (Str.ofString "__static_attributes__") 281) (Value.ref 79), DictEntry.mk (PyData.keyHash P (Str.ofString "_func")) (Value.str (Str.ofString "_func") 283) (Value.ref 83), DictEntry.mk (PyData.keyHash P (Str.ofString "_it")) (Value.str (Str.ofString "_it") 285) (Value.ref 84), DictEntry.mk (PyData.keyHash P (Str.ofString "__doc__")) (Value.str (Str.ofString "__doc__") 286) Value.none] 4) #[]
noncomputable def o82_10 (P : Params) : Obj := Obj.mk (Value.type "type") none (Data.cls (ClassData.mk (Str.ofString "filterfalse") [Value.type "object"] [Value.ref 82, Value.type "object"] 81 (Str.ofString "filterfalse") false [Str.ofString "_func", Str.ofString "_it"] [] false none false)) #[none, none, some (Value.str (Str.ofString "filterfalse") 239), some (Value.str (Str.ofString "filterfalse") 247), some (Value.builtin "object.__new__"), some (Value.bool false)]
noncomputable def o83_10 (P : Params) : Obj := Obj.mk (Value.type "member_descriptor") none (Data.fields #[Value.str (Str.ofString "_func") 282, Value.ref 82, Value.builtin "proto.slot", Value.builtin "proto.slot#set", Value.int 1 0]) #[]
noncomputable def o84_10 (P : Params) : Obj := Obj.mk (Value.type "member_descriptor") none (Data.fields #[Value.str (Str.ofString "_it") 284, Value.ref 82, Value.builtin "proto.slot", Value.builtin "proto.slot#set", Value.int 0 0]) #[]
noncomputable def o85_10 (P : Params) : Obj := Obj.mk (Value.type "super") none (Data.fields #[Value.ref 82, Value.ref 82, Value.ref 82]) #[]
noncomputable def o86_10 (P : Params) : Obj := Obj.mk (Value.type "builtin_function_or_method") none (Data.fields #[Value.builtin "object.__init_subclass__", Value.ref 82]) #[]
noncomputable def T2 (P : Params) : BT := (.node (boot_o_0 P) (.node (boot_o_1 P) (.node (o3_10 P) (.node (boot_o_7 P) (.node (o15_9 P) (.node (o31_9 P) (.node (o63_10 P) .nil .nil) .nil) (.node (o47_9 P) (.node (o79_10 P) .nil .nil) .nil)) (.node (o23_9 P) (.node (o39_9 P) (.node (o71_10 P) .nil .nil) .nil) (.node (o55_10 P) .nil .nil))) (.node (o11_0 P) (.node (o19_9 P) (.node (o35_9 P) (.node (o67_10 P) .nil .nil) .nil) (.node (o51_10 P) (.node (o83_10 P) .nil .nil) .nil)) (.node (o27_9 P) (.node (o43_9 P) (.node (o75_10 P) .nil .nil) .nil) (.node (o59_10 P) .nil .nil)))) (.node (boot_o_5 P) (.node (boot_o_9 P) (.node (o17_9 P) (.node (o33_9 P) (.node (o65_10 P) .nil .nil) .nil) (.node (o49_9 P) (.node (o81_10 P) .nil .nil) .nil)) (.node (o25_9 P) (.node (o41_9 P) (.node (o73_10 P) .nil .nil) .nil) (.node (o57_10 P) .nil .nil))) (.node (o13_0 P) (.node (o21_9 P) (.node (o37_9 P) (.node (o69_10 P) .nil .nil) .nil) (.node (o53_10 P) (.node (o85_10 P) .nil .nil) .nil)) (.node (o29_9 P) (.node (o45_9 P) (.node (o77_10 P) .nil .nil) .nil) (.node (o61_10 P) .nil .nil))))) (.node (boot_o_2 P) (.node (boot_o_4 P) (.node (boot_o_8 P) (.node (o16_9 P) (.node (o32_9 P) (.node (o64_10 P) .nil .nil) .nil) (.node (o48_9 P) (.node (o80_10 P) .nil .nil) .nil)) (.node (o24_9 P) (.node (o40_9 P) (.node (o72_10 P) .nil .nil) .nil) (.node (o56_10 P) .nil .nil))) (.node (o12_10 P) (.node (o20_9 P) (.node (o36_9 P) (.node (o68_10 P) .nil .nil) .nil) (.node (o52_10 P) (.node (o84_10 P) .nil .nil) .nil)) (.node (o28_9 P) (.node (o44_9 P) (.node (o76_10 P) .nil .nil) .nil) (.node (o60_10 P) .nil .nil)))) (.node (boot_o_6 P) (.node (boot_o_10 P) (.node (o18_9 P) (.node (o34_9 P) (.node (o66_10 P) .nil .nil) .nil) (.node (o50_10 P) (.node (o82_10 P) .nil .nil) .nil)) (.node (o26_9 P) (.node (o42_9 P) (.node (o74_10 P) .nil .nil) .nil) (.node (o58_10 P) .nil .nil))) (.node (o14_0 P) (.node (o22_9 P) (.node (o38_9 P) (.node (o70_10 P) .nil .nil) .nil) (.node (o54_10 P) (.node (o86_10 P) .nil .nil) .nil)) (.node (o30_9 P) (.node (o46_9 P) (.node (o78_10 P) .nil .nil) .nil) (.node (o62_10 P) .nil .nil))))))
noncomputable def S2 (w : World) (os : OsState) : SharedT := ⟨T2 w.params, 87, boot_life, #[], boot_drawn, 289, os⟩
noncomputable def o3_13 (P : Params) : Obj := Obj.mk (Value.type "dict") none (Data.dict #[DictEntry.mk (PyData.keyHash P (Str.ofString "__name__")) (Value.str (Str.ofString "__name__") 165) (Value.str (Str.ofString "cpy313.stringprep") 299), DictEntry.mk (PyData.keyHash P (Str.ofString "__doc__")) (Value.str (Str.ofString "__doc__") 166) Value.none, DictEntry.mk (PyData.keyHash P (Str.ofString "__package__")) (Value.str (Str.ofString "__package__") 167) Value.none, DictEntry.mk (PyData.keyHash P (Str.ofString "__loader__")) (Value.str (Str.ofString "__loader__") 168) (Value.builtin "__main__.__loader__#opaque"), DictEntry.mk (PyData.keyHash P (Str.ofString "__spec__")) (Value.str (Str.ofString "__spec__") 169) Value.none, DictEntry.mk (PyData.keyHash P (Str.ofString "__annotations__")) (Value.str (Str.ofString "__annotations__") 170) (Value.ref 6), DictEntry.mk (PyData.keyHash P (Str.ofString "__builtins__")) (Value.str (Str.ofString "__builtins__") 171) (Value.ref 4), DictEntry.mk (PyData.keyHash P (Str.ofString "__file__")) (Value.str (Str.ofString "__file__") 173) (Value.str (Str.ofString "/claim/cut.py") 172), DictEntry.mk (PyData.keyHash P (Str.ofString "__cached__")) (Value.str (Str.ofString "__cached__") 174) Value.none, DictEntry.mk (PyData.keyHash P (Str.ofString "_wall")) (Value.str (Str.ofString "_wall") 193) (Value.ref 21), DictEntry.mk (PyData.keyHash P (Str.ofString "sep")) (Value.str (Str.ofString "sep") 197) (Value.str (Str.ofString "/") 196), DictEntry.mk (PyData.keyHash P (Str.ofString "_kind")) (Value.str (Str.ofString "_kind") 206) (Value.ref 28), DictEntry.mk (PyData.keyHash P (Str.ofString "_fspath")) (Value.str (Str.ofString "_fspath") 215) (Value.ref 35), DictEntry.mk (PyData.keyHash P (Str.ofString "split")) (Value.str (Str.ofString "split") 226) (Value.ref 42), DictEntry.mk (PyData.keyHash P (Str.ofString "_ancestry")) (Value.str (Str.ofString "_ancestry") 236) (Value.ref 49), DictEntry.mk (PyData.keyHash P (Str.ofString "filterfalse")) (Value.str (Str.ofString "filterfalse") 288) (Value.ref 82), DictEntry.mk (PyData.keyHash P (Str.ofString "_difference")) (Value.str (Str.ofString "_difference") 298) (Value.ref 93)] 17) #[]
noncomputable def o12_13 (P : Params) : Obj := Obj.mk Value.none none (Data.fields #[Value.int 1 0, Value.int 0 0, Value.ref 20, Value.int 6 0, Value.int 0 0, Value.ref 27, Value.int 27 0, Value.int 0 0, Value.ref 34, Value.int 32 0, Value.int 0 0, Value.ref 41, Value.int 41 0, Value.int 0 0, Value.ref 48, Value.int 47 0, Value.int 0 0, Value.ref 55, Value.int 67 0, Value.int 0 0, Value.ref 92]) #[]
noncomputable def o87_13 (P : Params) : Obj := Obj.mk (Value.type "tuple") none (Data.seq #[]) #[]
noncomputable def o88_13 (P : Params) : Obj := Obj.mk Value.none none (Data.fields #[]) #[]
noncomputable def o89_13 (P : Params) : Obj := Obj.mk (Value.type "tuple") none (Data.seq #[Value.str (Str.ofString "minuend") 294, Value.str (Str.ofString "subtrahend") 295]) #[]
noncomputable def o90_13 (P : Params) : Obj := Obj.mk (Value.type "tuple") none (Data.seq #[]) #[]
noncomputable def o91_13 (P : Params) : Obj := Obj.mk Value.none none (Data.func (FuncData.mk (Str.ofString "_difference") (Str.ofString "_difference") (fdP (stAt 11)) (fdB (stAt 11)) (fdS (stAt 11)) 0 [] Value.none Value.none Value.none Value.none none Value.none Value.none 0)) #[]
noncomputable def o92_13 (P : Params) : Obj := Obj.mk (Value.type "code") none (Data.fields #[Value.str (Str.ofString "_difference") 291, Value.str (Str.ofString "_difference") 292, Value.str (Str.ofString "/claim/cut.py") 293, Value.int 67 0, Value.int 2 0, Value.int 0 0, Value.int 0 0, Value.int 3 0, Value.ref 87, Value.bool true, Value.int 181 0, Value.ref 88, Value.none, Value.ref 89, Value.ref 90, Value.ref 91, Value.int 296 0, Value.int 67 0, Value.str (Str.ofString "/claim/cut.py") 297]) #[]
noncomputable def o93_13 (P : Params) : Obj := Obj.mk (Value.type "function") none (Data.func (FuncData.mk (Str.ofString "_difference") (Str.ofString "_difference") (fdP (stAt 11)) (fdB (stAt 11)) (fdS (stAt 11)) 3 [] Value.none Value.none Value.none (Value.str (Str.ofString "cpy313.zipfile._path") 289) none (Value.ref 92) Value.none 0)) #[]
noncomputable def T3 (P : Params) : BT := (.node (boot_o_0 P) (.node (boot_o_1 P) (.node (o3_13 P) (.node (boot_o_7 P) (.node (o15_9 P) (.node (o31_9 P) (.node (o63_10 P) .nil .nil) .nil) (.node (o47_9 P) (.node (o79_10 P) .nil .nil) .nil)) (.node (o23_9 P) (.node (o39_9 P) (.node (o71_10 P) .nil .nil) .nil) (.node (o55_10 P) (.node (o87_13 P) .nil .nil) .nil))) (.node (o11_0 P) (.node (o19_9 P) (.node (o35_9 P) (.node (o67_10 P) .nil .nil) .nil) (.node (o51_10 P) (.node (o83_10 P) .nil .nil) .nil)) (.node (o27_9 P) (.node (o43_9 P) (.node (o75_10 P) .nil .nil) .nil) (.node (o59_10 P) (.node (o91_13 P) .nil .nil) .nil)))) (.node (boot_o_5 P) (.node (boot_o_9 P) (.node (o17_9 P) (.node (o33_9 P) (.node (o65_10 P) .nil .nil) .nil) (.node (o49_9 P) (.node (o81_10 P) .nil .nil) .nil)) (.node (o25_9 P) (.node (o41_9 P) (.node (o73_10 P) .nil .nil) .nil) (.node (o57_10 P) (.node (o89_13 P) .nil .nil) .nil))) (.node (o13_0 P) (.node (o21_9 P) (.node (o37_9 P) (.node (o69_10 P) .nil .nil) .nil) (.node (o53_10 P) (.node (o85_10 P) .nil .nil) .nil)) (.node (o29_9 P) (.node (o45_9 P) (.node (o77_10 P) .nil .nil) .nil) (.node (o61_10 P) (.node (o93_13 P) .nil .nil) .nil))))) (.node (boot_o_2 P) (.node (boot_o_4 P) (.node (boot_o_8 P) (.node (o16_9 P) (.node (o32_9 P) (.node (o64_10 P) .nil .nil) .nil) (.node (o48_9 P) (.node (o80_10 P) .nil .nil) .nil)) (.node (o24_9 P) (.node (o40_9 P) (.node (o72_10 P) .nil .nil) .nil) (.node (o56_10 P) (.node (o88_13 P) .nil .nil) .nil))) (.node (o12_13 P) (.node (o20_9 P) (.node (o36_9 P) (.node (o68_10 P) .nil .nil) .nil) (.node (o52_10 P) (.node (o84_10 P) .nil .nil) .nil)) (.node (o28_9 P) (.node (o44_9 P) (.node (o76_10 P) .nil .nil) .nil) (.node (o60_10 P) (.node (o92_13 P) .nil .nil) .nil)))) (.node (boot_o_6 P) (.node (boot_o_10 P) (.node (o18_9 P) (.node (o34_9 P) (.node (o66_10 P) .nil .nil) .nil) (.node (o50_10 P) (.node (o82_10 P) .nil .nil) .nil)) (.node (o26_9 P) (.node (o42_9 P) (.node (o74_10 P) .nil .nil) .nil) (.node (o58_10 P) (.node (o90_13 P) .nil .nil) .nil))) (.node (o14_0 P) (.node (o22_9 P) (.node (o38_9 P) (.node (o70_10 P) .nil .nil) .nil) (.node (o54_10 P) (.node (o86_10 P) .nil .nil) .nil)) (.node (o30_9 P) (.node (o46_9 P) (.node (o78_10 P) .nil .nil) .nil) (.node (o62_10 P) .nil .nil))))))
noncomputable def S3 (w : World) (os : OsState) : SharedT := ⟨T3 w.params, 94, boot_life, #[], boot_drawn, 301, os⟩
noncomputable def o3_14 (P : Params) : Obj := Obj.mk (Value.type "dict") none (Data.dict #[DictEntry.mk (PyData.keyHash P (Str.ofString "__name__")) (Value.str (Str.ofString "__name__") 165) (Value.str (Str.ofString "cpy313.stringprep") 299), DictEntry.mk (PyData.keyHash P (Str.ofString "__doc__")) (Value.str (Str.ofString "__doc__") 166) Value.none, DictEntry.mk (PyData.keyHash P (Str.ofString "__package__")) (Value.str (Str.ofString "__package__") 167) Value.none, DictEntry.mk (PyData.keyHash P (Str.ofString "__loader__")) (Value.str (Str.ofString "__loader__") 168) (Value.builtin "__main__.__loader__#opaque"), DictEntry.mk (PyData.keyHash P (Str.ofString "__spec__")) (Value.str (Str.ofString "__spec__") 169) Value.none, DictEntry.mk (PyData.keyHash P (Str.ofString "__annotations__")) (Value.str (Str.ofString "__annotations__") 170) (Value.ref 6), DictEntry.mk (PyData.keyHash P (Str.ofString "__builtins__")) (Value.str (Str.ofString "__builtins__") 171) (Value.ref 4), DictEntry.mk (PyData.keyHash P (Str.ofString "__file__")) (Value.str (Str.ofString "__file__") 173) (Value.str (Str.ofString "/claim/cut.py") 172), DictEntry.mk (PyData.keyHash P (Str.ofString "__cached__")) (Value.str (Str.ofString "__cached__") 174) Value.none, DictEntry.mk (PyData.keyHash P (Str.ofString "_wall")) (Value.str (Str.ofString "_wall") 193) (Value.ref 21), DictEntry.mk (PyData.keyHash P (Str.ofString "sep")) (Value.str (Str.ofString "sep") 197) (Value.str (Str.ofString "/") 196), DictEntry.mk (PyData.keyHash P (Str.ofString "_kind")) (Value.str (Str.ofString "_kind") 206) (Value.ref 28), DictEntry.mk (PyData.keyHash P (Str.ofString "_fspath")) (Value.str (Str.ofString "_fspath") 215) (Value.ref 35), DictEntry.mk (PyData.keyHash P (Str.ofString "split")) (Value.str (Str.ofString "split") 226) (Value.ref 42), DictEntry.mk (PyData.keyHash P (Str.ofString "_ancestry")) (Value.str (Str.ofString "_ancestry") 236) (Value.ref 49), DictEntry.mk (PyData.keyHash P (Str.ofString "filterfalse")) (Value.str (Str.ofString "filterfalse") 288) (Value.ref 82), DictEntry.mk (PyData.keyHash P (Str.ofString "_difference")) (Value.str (Str.ofString "_difference") 298) (Value.ref 93), DictEntry.mk (PyData.keyHash P (Str.ofString "b1_set")) (Value.str (Str.ofString "b1_set") 360) (Value.ref 101)] 18) #[]
noncomputable def o94_14 (P : Params) : Obj := Obj.mk (Value.type "list") none (Data.seq #[Value.int 173 301, Value.int 847 302, Value.int 6150 303, Value.int 6155 304, Value.int 6156 305, Value.int 6157 306, Value.int 8203 307, Value.int 8204 308, Value.int 8205 309, Value.int 8288 310, Value.int 65279 311]) #[]
noncomputable def o95_14 (P : Params) : Obj := Obj.mk (Value.type "range") none (Data.fields #[Value.int 65024 312, Value.int 65040 313, Value.int 1 314]) #[]
noncomputable def o96_14 (P : Params) : Obj := Obj.mk (Value.type "list") none (Data.seq #[Value.int 65024 317, Value.int 65025 318, Value.int 65026 319, Value.int 65027 320, Value.int 65028 321, Value.int 65029 322, Value.int 65030 323, Value.int 65031 324, Value.int 65032 325, Value.int 65033 326, Value.int 65034 327, Value.int 65035 328, Value.int 65036 329, Value.int 65037 330, Value.int 65038 331, Value.int 65039 332] 18) #[]
noncomputable def o97_14 (P : Params) : Obj := Obj.mk (Value.type "range_iterator") none (Data.fields #[Value.int 65040 0, Value.int 0 0, Value.int 1 0]) #[]
noncomputable def o98_14 (P : Params) : Obj := Obj.mk (Value.type "tuple") none (Data.seq #[]) #[]
noncomputable def o99_14 (P : Params) : Obj := Obj.mk (Value.type "StopIteration") none (Data.fields #[Value.ref 98, Value.none, Value.none, Value.none, Value.bool false, Value.none]) #[]
noncomputable def o100_14 (P : Params) : Obj := Obj.mk (Value.type "list") none (Data.seq #[Value.int 173 301, Value.int 847 302, Value.int 6150 303, Value.int 6155 304, Value.int 6156 305, Value.int 6157 306, Value.int 8203 307, Value.int 8204 308, Value.int 8205 309, Value.int 8288 310, Value.int 65279 311, Value.int 65024 317, Value.int 65025 318, Value.int 65026 319, Value.int 65027 320, Value.int 65028 321, Value.int 65029 322, Value.int 65030 323, Value.int 65031 324, Value.int 65032 325, Value.int 65033 326, Value.int 65034 327, Value.int 65035 328, Value.int 65036 329, Value.int 65037 330, Value.int 65038 331, Value.int 65039 332]) #[]
noncomputable def o101_14 (P : Params) : Obj := Obj.mk (Value.type "set") none (Data.set #[(65024, Value.int 65024 317), (65025, Value.int 65025 318), (65026, Value.int 65026 319), (65027, Value.int 65027 320), (65028, Value.int 65028 321), (65029, Value.int 65029 322), (6150, Value.int 6150 303), (65030, Value.int 65030 323), (65031, Value.int 65031 324), (65032, Value.int 65032 325), (65033, Value.int 65033 326), (6155, Value.int 6155 304), (6156, Value.int 6156 305), (6157, Value.int 6157 306), (8203, Value.int 8203 307), (8204, Value.int 8204 308), (8205, Value.int 8205 309), (65034, Value.int 65034 327), (65035, Value.int 65035 328), (65036, Value.int 65036 329), (65037, Value.int 65037 330), (65038, Value.int 65038 331), (65039, Value.int 65039 332), (173, Value.int 173 301), (847, Value.int 847 302), (8288, Value.int 8288 310), (65279, Value.int 65279 311)] 29 (SetTable.mk 127 #[0, 1, 2, 3, 4, 5, 6, 7, 8, 9, 10, 11, 12, 13, 14, 15, 16, 17, 18, 19, 20, 21, 22, 45, 79, 96, 127] #[] 0 (!P.followText "set-order") 2 true)) #[]
noncomputable def o102_14 (P : Params) : Obj := Obj.mk (Value.type "list_iterator") none (Data.fields #[Value.none, Value.int 27 0]) #[]
noncomputable def o103_14 (P : Params) : Obj := Obj.mk (Value.type "tuple") none (Data.seq #[]) #[]
noncomputable def o104_14 (P : Params) : Obj := Obj.mk (Value.type "StopIteration") none (Data.fields #[Value.ref 103, Value.none, Value.none, Value.none, Value.bool false, Value.none]) #[]
noncomputable def T4 (P : Params) : BT := (.node (boot_o_0 P) (.node (boot_o_1 P) (.node (o3_14 P) (.node (boot_o_7 P) (.node (o15_9 P) (.node (o31_9 P) (.node (o63_10 P) .nil .nil) (.node (o95_14 P) .nil .nil)) (.node (o47_9 P) (.node (o79_10 P) .nil .nil) .nil)) (.node (o23_9 P) (.node (o39_9 P) (.node (o71_10 P) .nil .nil) (.node (o103_14 P) .nil .nil)) (.node (o55_10 P) (.node (o87_13 P) .nil .nil) .nil))) (.node (o11_0 P) (.node (o19_9 P) (.node (o35_9 P) (.node (o67_10 P) .nil .nil) (.node (o99_14 P) .nil .nil)) (.node (o51_10 P) (.node (o83_10 P) .nil .nil) .nil)) (.node (o27_9 P) (.node (o43_9 P) (.node (o75_10 P) .nil .nil) .nil) (.node (o59_10 P) (.node (o91_13 P) .nil .nil) .nil)))) (.node (boot_o_5 P) (.node (boot_o_9 P) (.node (o17_9 P) (.node (o33_9 P) (.node (o65_10 P) .nil .nil) (.node (o97_14 P) .nil .nil)) (.node (o49_9 P) (.node (o81_10 P) .nil .nil) .nil)) (.node (o25_9 P) (.node (o41_9 P) (.node (o73_10 P) .nil .nil) .nil) (.node (o57_10 P) (.node (o89_13 P) .nil .nil) .nil))) (.node (o13_0 P) (.node (o21_9 P) (.node (o37_9 P) (.node (o69_10 P) .nil .nil) (.node (o101_14 P) .nil .nil)) (.node (o53_10 P) (.node (o85_10 P) .nil .nil) .nil)) (.node (o29_9 P) (.node (o45_9 P) (.node (o77_10 P) .nil .nil) .nil) (.node (o61_10 P) (.node (o93_13 P) .nil .nil) .nil))))) (.node (boot_o_2 P) (.node (boot_o_4 P) (.node (boot_o_8 P) (.node (o16_9 P) (.node (o32_9 P) (.node (o64_10 P) .nil .nil) (.node (o96_14 P) .nil .nil)) (.node (o48_9 P) (.node (o80_10 P) .nil .nil) .nil)) (.node (o24_9 P) (.node (o40_9 P) (.node (o72_10 P) .nil .nil) (.node (o104_14 P) .nil .nil)) (.node (o56_10 P) (.node (o88_13 P) .nil .nil) .nil))) (.node (o12_13 P) (.node (o20_9 P) (.node (o36_9 P) (.node (o68_10 P) .nil .nil) (.node (o100_14 P) .nil .nil)) (.node (o52_10 P) (.node (o84_10 P) .nil .nil) .nil)) (.node (o28_9 P) (.node (o44_9 P) (.node (o76_10 P) .nil .nil) .nil) (.node (o60_10 P) (.node (o92_13 P) .nil .nil) .nil)))) (.node (boot_o_6 P) (.node (boot_o_10 P) (.node (o18_9 P) (.node (o34_9 P) (.node (o66_10 P) .nil .nil) (.node (o98_14 P) .nil .nil)) (.node (o50_10 P) (.node (o82_10 P) .nil .nil) .nil)) (.node (o26_9 P) (.node (o42_9 P) (.node (o74_10 P) .nil .nil) .nil) (.node (o58_10 P) (.node (o90_13 P) .nil .nil) .nil))) (.node (o14_0 P) (.node (o22_9 P) (.node (o38_9 P) (.node (o70_10 P) .nil .nil) (.node (o102_14 P) .nil .nil)) (.node (o54_10 P) (.node (o86_10 P) .nil .nil) .nil)) (.node (o30_9 P) (.node (o46_9 P) (.node (o78_10 P) .nil .nil) .nil) (.node (o62_10 P) (.node (o94_14 P) .nil .nil) .nil))))))
noncomputable def S4 (w : World) (os : OsState) : SharedT := ⟨T4 w.params, 105, boot_life, #[], boot_drawn, 361, os⟩
noncomputable def o3_15 (P : Params) : Obj := Obj.mk (Value.type "dict") none (Data.dict #[DictEntry.mk (PyData.keyHash P (Str.ofString "__name__")) (Value.str (Str.ofString "__name__") 165) (Value.str (Str.ofString "cpy313.stringprep") 299), DictEntry.mk (PyData.keyHash P (Str.ofString "__doc__")) (Value.str (Str.ofString "__doc__") 166) Value.none, DictEntry.mk (PyData.keyHash P (Str.ofString "__package__")) (Value.str (Str.ofString "__package__") 167) Value.none, DictEntry.mk (PyData.keyHash P (Str.ofString "__loader__")) (Value.str (Str.ofString "__loader__") 168) (Value.builtin "__main__.__loader__#opaque"), DictEntry.mk (PyData.keyHash P (Str.ofString "__spec__")) (Value.str (Str.ofString "__spec__") 169) Value.none, DictEntry.mk (PyData.keyHash P (Str.ofString "__annotations__")) (Value.str (Str.ofString "__annotations__") 170) (Value.ref 6), DictEntry.mk (PyData.keyHash P (Str.ofString "__builtins__")) (Value.str (Str.ofString "__builtins__") 171) (Value.ref 4), DictEntry.mk (PyData.keyHash P (Str.ofString "__file__")) (Value.str (Str.ofString "__file__") 173) (Value.str (Str.ofString "/claim/cut.py") 172), DictEntry.mk (PyData.keyHash P (Str.ofString "__cached__")) (Value.str (Str.ofString "__cached__") 174) Value.none, DictEntry.mk (PyData.keyHash P (Str.ofString "_wall")) (Value.str (Str.ofString "_wall") 193) (Value.ref 21), DictEntry.mk (PyData.keyHash P (Str.ofString "sep")) (Value.str (Str.ofString "sep") 197) (Value.str (Str.ofString "/") 196), DictEntry.mk (PyData.keyHash P (Str.ofString "_kind")) (Value.str (Str.ofString "_kind") 206) (Value.ref 28), DictEntry.mk (PyData.keyHash P (Str.ofString "_fspath")) (Value.str (Str.ofString "_fspath") 215) (Value.ref 35), DictEntry.mk (PyData.keyHash P (Str.ofString "split")) (Value.str (Str.ofString "split") 226) (Value.ref 42), DictEntry.mk (PyData.keyHash P (Str.ofString "_ancestry")) (Value.str (Str.ofString "_ancestry") 236) (Value.ref 49), DictEntry.mk (PyData.keyHash P (Str.ofString "filterfalse")) (Value.str (Str.ofString "filterfalse") 288) (Value.ref 82), DictEntry.mk (PyData.keyHash P (Str.ofString "_difference")) (Value.str (Str.ofString "_difference") 298) (Value.ref 93), DictEntry.mk (PyData.keyHash P (Str.ofString "b1_set")) (Value.str (Str.ofString "b1_set") 360) (Value.ref 101), DictEntry.mk (PyData.keyHash P (Str.ofString "in_table_b1")) (Value.str (Str.ofString "in_table_b1") 367) (Value.ref 111)] 19) #[]
noncomputable def o12_15 (P : Params) : Obj := Obj.mk Value.none none (Data.fields #[Value.int 1 0, Value.int 0 0, Value.ref 20, Value.int 6 0, Value.int 0 0, Value.ref 27, Value.int 27 0, Value.int 0 0, Value.ref 34, Value.int 32 0, Value.int 0 0, Value.ref 41, Value.int 41 0, Value.int 0 0, Value.ref 48, Value.int 47 0, Value.int 0 0, Value.ref 55, Value.int 67 0, Value.int 0 0, Value.ref 92, Value.int 71 0, Value.int 0 0, Value.ref 110]) #[]
noncomputable def o105_15 (P : Params) : Obj := Obj.mk (Value.type "tuple") none (Data.seq #[]) #[]
noncomputable def o106_15 (P : Params) : Obj := Obj.mk Value.none none (Data.fields #[]) #[]
noncomputable def o107_15 (P : Params) : Obj := Obj.mk (Value.type "tuple") none (Data.seq #[Value.str (Str.ofString "code") 364]) #[]
noncomputable def o108_15 (P : Params) : Obj := Obj.mk (Value.type "tuple") none (Data.seq #[]) #[]
noncomputable def o109_15 (P : Params) : Obj := Obj.mk Value.none none (Data.func (FuncData.mk (Str.ofString "in_table_b1") (Str.ofString "in_table_b1") (fdP (stAt 14)) (fdB (stAt 14)) (fdS (stAt 14)) 0 [] Value.none Value.none Value.none Value.none none Value.none Value.none 0)) #[]
noncomputable def o110_15 (P : Params) : Obj := Obj.mk (Value.type "code") none (Data.fields #[Value.str (Str.ofString "in_table_b1") 361, Value.str (Str.ofString "in_table_b1") 362, Value.str (Str.ofString "/claim/cut.py") 363, Value.int 71 0, Value.int 1 0, Value.int 0 0, Value.int 0 0, Value.int 3 0, Value.ref 105, Value.bool true, Value.int 181 0, Value.ref 106, Value.none, Value.ref 107, Value.ref 108, Value.ref 109, Value.int 365 0, Value.int 71 0, Value.str (Str.ofString "/claim/cut.py") 366]) #[]
noncomputable def o111_15 (P : Params) : Obj := Obj.mk (Value.type "function") none (Data.func (FuncData.mk (Str.ofString "in_table_b1") (Str.ofString "in_table_b1") (fdP (stAt 14)) (fdB (stAt 14)) (fdS (stAt 14)) 3 [] Value.none Value.none Value.none (Value.str (Str.ofString "cpy313.stringprep") 299) none (Value.ref 110) Value.none 0)) #[]
noncomputable def T5 (P : Params) : BT := (.node (boot_o_0 P) (.node (boot_o_1 P) (.node (o3_15 P) (.node (boot_o_7 P) (.node (o15_9 P) (.node (o31_9 P) (.node (o63_10 P) .nil .nil) (.node (o95_14 P) .nil .nil)) (.node (o47_9 P) (.node (o79_10 P) .nil .nil) (.node (o111_15 P) .nil .nil))) (.node (o23_9 P) (.node (o39_9 P) (.node (o71_10 P) .nil .nil) (.node (o103_14 P) .nil .nil)) (.node (o55_10 P) (.node (o87_13 P) .nil .nil) .nil))) (.node (o11_0 P) (.node (o19_9 P) (.node (o35_9 P) (.node (o67_10 P) .nil .nil) (.node (o99_14 P) .nil .nil)) (.node (o51_10 P) (.node (o83_10 P) .nil .nil) .nil)) (.node (o27_9 P) (.node (o43_9 P) (.node (o75_10 P) .nil .nil) (.node (o107_15 P) .nil .nil)) (.node (o59_10 P) (.node (o91_13 P) .nil .nil) .nil)))) (.node (boot_o_5 P) (.node (boot_o_9 P) (.node (o17_9 P) (.node (o33_9 P) (.node (o65_10 P) .nil .nil) (.node (o97_14 P) .nil .nil)) (.node (o49_9 P) (.node (o81_10 P) .nil .nil) .nil)) (.node (o25_9 P) (.node (o41_9 P) (.node (o73_10 P) .nil .nil) (.node (o105_15 P) .nil .nil)) (.node (o57_10 P) (.node (o89_13 P) .nil .nil) .nil))) (.node (o13_0 P) (.node (o21_9 P) (.node (o37_9 P) (.node (o69_10 P) .nil .nil) (.node (o101_14 P) .nil .nil)) (.node (o53_10 P) (.node (o85_10 P) .nil .nil) .nil)) (.node (o29_9 P) (.node (o45_9 P) (.node (o77_10 P) .nil .nil) (.node (o109_15 P) .nil .nil)) (.node (o61_10 P) (.node (o93_13 P) .nil .nil) .nil))))) (.node (boot_o_2 P) (.node (boot_o_4 P) (.node (boot_o_8 P) (.node (o16_9 P) (.node (o32_9 P) (.node (o64_10 P) .nil .nil) (.node (o96_14 P) .nil .nil)) (.node (o48_9 P) (.node (o80_10 P) .nil .nil) .nil)) (.node (o24_9 P) (.node (o40_9 P) (.node (o72_10 P) .nil .nil) (.node (o104_14 P) .nil .nil)) (.node (o56_10 P) (.node (o88_13 P) .nil .nil) .nil))) (.node (o12_15 P) (.node (o20_9 P) (.node (o36_9 P) (.node (o68_10 P) .nil .nil) (.node (o100_14 P) .nil .nil)) (.node (o52_10 P) (.node (o84_10 P) .nil .nil) .nil)) (.node (o28_9 P) (.node (o44_9 P) (.node (o76_10 P) .nil .nil) (.node (o108_15 P) .nil .nil)) (.node (o60_10 P) (.node (o92_13 P) .nil .nil) .nil)))) (.node (boot_o_6 P) (.node (boot_o_10 P) (.node (o18_9 P) (.node (o34_9 P) (.node (o66_10 P) .nil .nil) (.node (o98_14 P) .nil .nil)) (.node (o50_10 P) (.node (o82_10 P) .nil .nil) .nil)) (.node (o26_9 P) (.node (o42_9 P) (.node (o74_10 P) .nil .nil) (.node (o106_15 P) .nil .nil)) (.node (o58_10 P) (.node (o90_13 P) .nil .nil) .nil))) (.node (o14_0 P) (.node (o22_9 P) (.node (o38_9 P) (.node (o70_10 P) .nil .nil) (.node (o102_14 P) .nil .nil)) (.node (o54_10 P) (.node (o86_10 P) .nil .nil) .nil)) (.node (o30_9 P) (.node (o46_9 P) (.node (o78_10 P) .nil .nil) (.node (o110_15 P) .nil .nil)) (.node (o62_10 P) (.node (o94_14 P) .nil .nil) .nil))))))
noncomputable def S5 (w : World) (os : OsState) : SharedT := ⟨T5 w.params, 112, boot_life, #[], boot_drawn, 368, os⟩
noncomputable def o3_16 (P : Params) : Obj := Obj.mk (Value.type "dict") none (Data.dict #[DictEntry.mk (PyData.keyHash P (Str.ofString "__name__")) (Value.str (Str.ofString "__name__") 165) (Value.str (Str.ofString "cpy313.stringprep") 299), DictEntry.mk (PyData.keyHash P (Str.ofString "__doc__")) (Value.str (Str.ofString "__doc__") 166) Value.none, DictEntry.mk (PyData.keyHash P (Str.ofString "__package__")) (Value.str (Str.ofString "__package__") 167) Value.none, DictEntry.mk (PyData.keyHash P (Str.ofString "__loader__")) (Value.str (Str.ofString "__loader__") 168) (Value.builtin "__main__.__loader__#opaque"), DictEntry.mk (PyData.keyHash P (Str.ofString "__spec__")) (Value.str (Str.ofString "__spec__") 169) Value.none, DictEntry.mk (PyData.keyHash P (Str.ofString "__annotations__")) (Value.str (Str.ofString "__annotations__") 170) (Value.ref 6), DictEntry.mk (PyData.keyHash P (Str.ofString "__builtins__")) (Value.str (Str.ofString "__builtins__") 171) (Value.ref 4), DictEntry.mk (PyData.keyHash P (Str.ofString "__file__")) (Value.str (Str.ofString "__file__") 173) (Value.str (Str.ofString "/claim/cut.py") 172), DictEntry.mk (PyData.keyHash P (Str.ofString "__cached__")) (Value.str (Str.ofString "__cached__") 174) Value.none, DictEntry.mk (PyData.keyHash P (Str.ofString "_wall")) (Value.str (Str.ofString "_wall") 193) (Value.ref 21), DictEntry.mk (PyData.keyHash P (Str.ofString "sep")) (Value.str (Str.ofString "sep") 197) (Value.str (Str.ofString "/") 196), DictEntry.mk (PyData.keyHash P (Str.ofString "_kind")) (Value.str (Str.ofString "_kind") 206) (Value.ref 28), DictEntry.mk (PyData.keyHash P (Str.ofString "_fspath")) (Value.str (Str.ofString "_fspath") 215) (Value.ref 35), DictEntry.mk (PyData.keyHash P (Str.ofString "split")) (Value.str (Str.ofString "split") 226) (Value.ref 42), DictEntry.mk (PyData.keyHash P (Str.ofString "_ancestry")) (Value.str (Str.ofString "_ancestry") 236) (Value.ref 49), DictEntry.mk (PyData.keyHash P (Str.ofString "filterfalse")) (Value.str (Str.ofString "filterfalse") 288) (Value.ref 82), DictEntry.mk (PyData.keyHash P (Str.ofString "_difference")) (Value.str (Str.ofString "_difference") 298) (Value.ref 93), DictEntry.mk (PyData.keyHash P (Str.ofString "b1_set")) (Value.str (Str.ofString "b1_set") 360) (Value.ref 101), DictEntry.mk (PyData.keyHash P (Str.ofString "in_table_b1")) (Value.str (Str.ofString "in_table_b1") 367) (Value.ref 111), DictEntry.mk (PyData.keyHash P (Str.ofString "b3_exceptions")) (Value.str (Str.ofString "b3_exceptions") 2318) (Value.ref 112)] 20) #[]
noncomputable def T6 (P : Params) : BT := (.node (boot_o_0 P) (.node (boot_o_1 P) (.node (o3_16 P) (.node (boot_o_7 P) (.node (o15_9 P) (.node (o31_9 P) (.node (o63_10 P) (.node (oSub 14 P) .nil .nil) .nil) (.node (o95_14 P) .nil .nil)) (.node (o47_9 P) (.node (o79_10 P) (.node (oSub 30 P) .nil .nil) .nil) (.node (o111_15 P) .nil .nil))) (.node (o23_9 P) (.node (o39_9 P) (.node (o71_10 P) (.node (oSub 22 P) .nil .nil) .nil) (.node (o103_14 P) .nil .nil)) (.node (o55_10 P) (.node (o87_13 P) .nil .nil) (.node (oSub 6 P) .nil .nil)))) (.node (o11_0 P) (.node (o19_9 P) (.node (o35_9 P) (.node (o67_10 P) (.node (oSub 18 P) .nil .nil) .nil) (.node (o99_14 P) .nil .nil)) (.node (o51_10 P) (.node (o83_10 P) (.node (oSub 34 P) .nil .nil) .nil) (.node (oSub 2 P) .nil .nil))) (.node (o27_9 P) (.node (o43_9 P) (.node (o75_10 P) (.node (oSub 26 P) .nil .nil) .nil) (.node (o107_15 P) .nil .nil)) (.node (o59_10 P) (.node (o91_13 P) .nil .nil) (.node (oSub 10 P) .nil .nil))))) (.node (boot_o_5 P) (.node (boot_o_9 P) (.node (o17_9 P) (.node (o33_9 P) (.node (o65_10 P) (.node (oSub 16 P) .nil .nil) .nil) (.node (o97_14 P) .nil .nil)) (.node (o49_9 P) (.node (o81_10 P) (.node (oSub 32 P) .nil .nil) .nil) (.node (oSub 0 P) .nil .nil))) (.node (o25_9 P) (.node (o41_9 P) (.node (o73_10 P) (.node (oSub 24 P) .nil .nil) .nil) (.node (o105_15 P) .nil .nil)) (.node (o57_10 P) (.node (o89_13 P) .nil .nil) (.node (oSub 8 P) .nil .nil)))) (.node (o13_0 P) (.node (o21_9 P) (.node (o37_9 P) (.node (o69_10 P) (.node (oSub 20 P) .nil .nil) .nil) (.node (o101_14 P) .nil .nil)) (.node (o53_10 P) (.node (o85_10 P) (.node (oSub 36 P) .nil .nil) .nil) (.node (oSub 4 P) .nil .nil))) (.node (o29_9 P) (.node (o45_9 P) (.node (o77_10 P) (.node (oSub 28 P) .nil .nil) .nil) (.node (o109_15 P) .nil .nil)) (.node (o61_10 P) (.node (o93_13 P) .nil .nil) (.node (oSub 12 P) .nil .nil)))))) (.node (boot_o_2 P) (.node (boot_o_4 P) (.node (boot_o_8 P) (.node (o16_9 P) (.node (o32_9 P) (.node (o64_10 P) (.node (oSub 15 P) .nil .nil) .nil) (.node (o96_14 P) .nil .nil)) (.node (o48_9 P) (.node (o80_10 P) (.node (oSub 31 P) .nil .nil) .nil) (.node (oBig P) .nil .nil))) (.node (o24_9 P) (.node (o40_9 P) (.node (o72_10 P) (.node (oSub 23 P) .nil .nil) .nil) (.node (o104_14 P) .nil .nil)) (.node (o56_10 P) (.node (o88_13 P) .nil .nil) (.node (oSub 7 P) .nil .nil)))) (.node (o12_15 P) (.node (o20_9 P) (.node (o36_9 P) (.node (o68_10 P) (.node (oSub 19 P) .nil .nil) .nil) (.node (o100_14 P) .nil .nil)) (.node (o52_10 P) (.node (o84_10 P) (.node (oSub 35 P) .nil .nil) .nil) (.node (oSub 3 P) .nil .nil))) (.node (o28_9 P) (.node (o44_9 P) (.node (o76_10 P) (.node (oSub 27 P) .nil .nil) .nil) (.node (o108_15 P) .nil .nil)) (.node (o60_10 P) (.node (o92_13 P) .nil .nil) (.node (oSub 11 P) .nil .nil))))) (.node (boot_o_6 P) (.node (boot_o_10 P) (.node (o18_9 P) (.node (o34_9 P) (.node (o66_10 P) (.node (oSub 17 P) .nil .nil) .nil) (.node (o98_14 P) .nil .nil)) (.node (o50_10 P) (.node (o82_10 P) (.node (oSub 33 P) .nil .nil) .nil) (.node (oSub 1 P) .nil .nil))) (.node (o26_9 P) (.node (o42_9 P) (.node (o74_10 P) (.node (oSub 25 P) .nil .nil) .nil) (.node (o106_15 P) .nil .nil)) (.node (o58_10 P) (.node (o90_13 P) .nil .nil) (.node (oSub 9 P) .nil .nil)))) (.node (o14_0 P) (.node (o22_9 P) (.node (o38_9 P) (.node (o70_10 P) (.node (oSub 21 P) .nil .nil) .nil) (.node (o102_14 P) .nil .nil)) (.node (o54_10 P) (.node (o86_10 P) (.node (oSub 37 P) .nil .nil) .nil) (.node (oSub 5 P) .nil .nil))) (.node (o30_9 P) (.node (o46_9 P) (.node (o78_10 P) (.node (oSub 29 P) .nil .nil) .nil) (.node (o110_15 P) .nil .nil)) (.node (o62_10 P) (.node (o94_14 P) .nil .nil) (.node (oSub 13 P) .nil .nil)))))))
noncomputable def S6 (w : World) (os : OsState) : SharedT := ⟨T6 w.params, 151, boot_life, #[], boot_drawn, 2319, os⟩
noncomputable def o3_22 (P : Params) : Obj := Obj.mk (Value.type "dict") none (Data.dict #[DictEntry.mk (PyData.keyHash P (Str.ofString "__name__")) (Value.str (Str.ofString "__name__") 165) (Value.str (Str.ofString "law_ij0113_01") 2327), DictEntry.mk (PyData.keyHash P (Str.ofString "__doc__")) (Value.str (Str.ofString "__doc__") 166) Value.none, DictEntry.mk (PyData.keyHash P (Str.ofString "__package__")) (Value.str (Str.ofString "__package__") 167) Value.none, DictEntry.mk (PyData.keyHash P (Str.ofString "__loader__")) (Value.str (Str.ofString "__loader__") 168) (Value.builtin "__main__.__loader__#opaque"), DictEntry.mk (PyData.keyHash P (Str.ofString "__spec__")) (Value.str (Str.ofString "__spec__") 169) Value.none, DictEntry.mk (PyData.keyHash P (Str.ofString "__annotations__")) (Value.str (Str.ofString "__annotations__") 170) (Value.ref 6), DictEntry.mk (PyData.keyHash P (Str.ofString "__builtins__")) (Value.str (Str.ofString "__builtins__") 171) (Value.ref 4), DictEntry.mk (PyData.keyHash P (Str.ofString "__file__")) (Value.str (Str.ofString "__file__") 173) (Value.str (Str.ofString "/claim/cut.py") 172), DictEntry.mk (PyData.keyHash P (Str.ofString "__cached__")) (Value.str (Str.ofString "__cached__") 174) Value.none, DictEntry.mk (PyData.keyHash P (Str.ofString "_wall")) (Value.str (Str.ofString "_wall") 193) (Value.ref 21), DictEntry.mk (PyData.keyHash P (Str.ofString "sep")) (Value.str (Str.ofString "sep") 197) (Value.str (Str.ofString "/") 196), DictEntry.mk (PyData.keyHash P (Str.ofString "_kind")) (Value.str (Str.ofString "_kind") 206) (Value.ref 28), DictEntry.mk (PyData.keyHash P (Str.ofString "_fspath")) (Value.str (Str.ofString "_fspath") 215) (Value.ref 35), DictEntry.mk (PyData.keyHash P (Str.ofString "split")) (Value.str (Str.ofString "split") 226) (Value.ref 42), DictEntry.mk (PyData.keyHash P (Str.ofString "_ancestry")) (Value.str (Str.ofString "_ancestry") 236) (Value.ref 49), DictEntry.mk (PyData.keyHash P (Str.ofString "filterfalse")) (Value.str (Str.ofString "filterfalse") 288) (Value.ref 82), DictEntry.mk (PyData.keyHash P (Str.ofString "_difference")) (Value.str (Str.ofString "_difference") 298) (Value.ref 93), DictEntry.mk (PyData.keyHash P (Str.ofString "b1_set")) (Value.str (Str.ofString "b1_set") 360) (Value.ref 101), DictEntry.mk (PyData.keyHash P (Str.ofString "in_table_b1")) (Value.str (Str.ofString "in_table_b1") 367) (Value.ref 111), DictEntry.mk (PyData.keyHash P (Str.ofString "b3_exceptions")) (Value.str (Str.ofString "b3_exceptions") 2318) (Value.ref 112), DictEntry.mk (PyData.keyHash P (Str.ofString "map_table_b3")) (Value.str (Str.ofString "map_table_b3") 2326) (Value.ref 157), DictEntry.mk (PyData.keyHash P (Str.ofString "_law_hidden")) (Value.str (Str.ofString "_law_hidden") 2337) (Value.ref 164), DictEntry.mk (PyData.keyHash P (Str.ofString "_law_sign")) (Value.str (Str.ofString "_law_sign") 2348) (Value.ref 171), DictEntry.mk (PyData.keyHash P (Str.ofString "_law_prepared")) (Value.str (Str.ofString "_law_prepared") 2354) (Value.ref 176), DictEntry.mk (PyData.keyHash P (Str.ofString "law")) (Value.str (Str.ofString "law") 2360) (Value.ref 181)] 25) #[]
noncomputable def o12_22 (P : Params) : Obj := Obj.mk Value.none none (Data.fields #[Value.int 1 0, Value.int 0 0, Value.ref 20, Value.int 6 0, Value.int 0 0, Value.ref 27, Value.int 27 0, Value.int 0 0, Value.ref 34, Value.int 32 0, Value.int 0 0, Value.ref 41, Value.int 41 0, Value.int 0 0, Value.ref 48, Value.int 47 0, Value.int 0 0, Value.ref 55, Value.int 67 0, Value.int 0 0, Value.ref 92, Value.int 71 0, Value.int 0 0, Value.ref 110, Value.int 74 0, Value.int 0 0, Value.ref 156, Value.int 80 0, Value.int 0 0, Value.ref 163, Value.int 85 0, Value.int 0 0, Value.ref 170, Value.int 99 0, Value.int 0 0, Value.ref 175, Value.int 101 0, Value.int 0 0, Value.ref 180]) #[]
noncomputable def o151_22 (P : Params) : Obj := Obj.mk (Value.type "tuple") none (Data.seq #[]) #[]
noncomputable def o152_22 (P : Params) : Obj := Obj.mk Value.none none (Data.fields #[]) #[]
noncomputable def o153_22 (P : Params) : Obj := Obj.mk (Value.type "tuple") none (Data.seq #[Value.str (Str.ofString "code") 2322, Value.str (Str.ofString "r") 2323]) #[]
noncomputable def o154_22 (P : Params) : Obj := Obj.mk (Value.type "tuple") none (Data.seq #[]) #[]
noncomputable def o155_22 (P : Params) : Obj := Obj.mk Value.none none (Data.func (FuncData.mk (Str.ofString "map_table_b3") (Str.ofString "map_table_b3") (fdP (stAt 16)) (fdB (stAt 16)) (fdS (stAt 16)) 0 [] Value.none Value.none Value.none Value.none none Value.none Value.none 0)) #[]
noncomputable def o156_22 (P : Params) : Obj := Obj.mk (Value.type "code") none (Data.fields #[Value.str (Str.ofString "map_table_b3") 2319, Value.str (Str.ofString "map_table_b3") 2320, Value.str (Str.ofString "/claim/cut.py") 2321, Value.int 74 0, Value.int 1 0, Value.int 0 0, Value.int 0 0, Value.int 3 0, Value.ref 151, Value.bool true, Value.int 181 0, Value.ref 152, Value.none, Value.ref 153, Value.ref 154, Value.ref 155, Value.int 2324 0, Value.int 74 0, Value.str (Str.ofString "/claim/cut.py") 2325]) #[]
noncomputable def o157_22 (P : Params) : Obj := Obj.mk (Value.type "function") none (Data.func (FuncData.mk (Str.ofString "map_table_b3") (Str.ofString "map_table_b3") (fdP (stAt 16)) (fdB (stAt 16)) (fdS (stAt 16)) 3 [] Value.none Value.none Value.none (Value.str (Str.ofString "cpy313.stringprep") 299) none (Value.ref 156) Value.none 0)) #[]
noncomputable def o158_22 (P : Params) : Obj := Obj.mk (Value.type "tuple") none (Data.seq #[]) #[]
noncomputable def o159_22 (P : Params) : Obj := Obj.mk Value.none none (Data.fields #[]) #[]
noncomputable def o160_22 (P : Params) : Obj := Obj.mk (Value.type "tuple") none (Data.seq #[Value.str (Str.ofString "which") 2332, Value.str (Str.ofString "first") 2333, Value.str (Str.ofString "many") 2334]) #[]
noncomputable def o161_22 (P : Params) : Obj := Obj.mk (Value.type "tuple") none (Data.seq #[]) #[]
noncomputable def o162_22 (P : Params) : Obj := Obj.mk Value.none none (Data.func (FuncData.mk (Str.ofString "_law_hidden") (Str.ofString "_law_hidden") (fdP (stAt 18)) (fdB (stAt 18)) (fdS (stAt 18)) 0 [] Value.none Value.none Value.none Value.none none Value.none Value.none 0)) #[]
noncomputable def o163_22 (P : Params) : Obj := Obj.mk (Value.type "code") none (Data.fields #[Value.str (Str.ofString "_law_hidden") 2329, Value.str (Str.ofString "_law_hidden") 2330, Value.str (Str.ofString "/claim/cut.py") 2331, Value.int 80 0, Value.int 1 0, Value.int 0 0, Value.int 0 0, Value.int 3 0, Value.ref 158, Value.bool true, Value.int 181 0, Value.ref 159, Value.none, Value.ref 160, Value.ref 161, Value.ref 162, Value.int 2335 0, Value.int 80 0, Value.str (Str.ofString "/claim/cut.py") 2336]) #[]
noncomputable def o164_22 (P : Params) : Obj := Obj.mk (Value.type "function") none (Data.func (FuncData.mk (Str.ofString "_law_hidden") (Str.ofString "_law_hidden") (fdP (stAt 18)) (fdB (stAt 18)) (fdS (stAt 18)) 3 [] Value.none Value.none Value.none (Value.str (Str.ofString "law_ij0113_01") 2327) none (Value.ref 163) Value.none 0)) #[]
noncomputable def o165_22 (P : Params) : Obj := Obj.mk (Value.type "tuple") none (Data.seq #[]) #[]
noncomputable def o166_22 (P : Params) : Obj := Obj.mk Value.none none (Data.fields #[]) #[]
noncomputable def o167_22 (P : Params) : Obj := Obj.mk (Value.type "tuple") none (Data.seq #[Value.str (Str.ofString "number") 2341, Value.str (Str.ofString "which") 2342, Value.str (Str.ofString "letter") 2343, Value.str (Str.ofString "face") 2344, Value.str (Str.ofString "word") 2345]) #[]
noncomputable def o168_22 (P : Params) : Obj := Obj.mk (Value.type "tuple") none (Data.seq #[]) #[]
noncomputable def o169_22 (P : Params) : Obj := Obj.mk Value.none none (Data.func (FuncData.mk (Str.ofString "_law_sign") (Str.ofString "_law_sign") (fdP (stAt 19)) (fdB (stAt 19)) (fdS (stAt 19)) 0 [] Value.none Value.none Value.none Value.none none Value.none Value.none 0)) #[]
noncomputable def o170_22 (P : Params) : Obj := Obj.mk (Value.type "code") none (Data.fields #[Value.str (Str.ofString "_law_sign") 2338, Value.str (Str.ofString "_law_sign") 2339, Value.str (Str.ofString "/claim/cut.py") 2340, Value.int 85 0, Value.int 1 0, Value.int 0 0, Value.int 0 0, Value.int 3 0, Value.ref 165, Value.bool true, Value.int 181 0, Value.ref 166, Value.none, Value.ref 167, Value.ref 168, Value.ref 169, Value.int 2346 0, Value.int 85 0, Value.str (Str.ofString "/claim/cut.py") 2347]) #[]
noncomputable def o171_22 (P : Params) : Obj := Obj.mk (Value.type "function") none (Data.func (FuncData.mk (Str.ofString "_law_sign") (Str.ofString "_law_sign") (fdP (stAt 19)) (fdB (stAt 19)) (fdS (stAt 19)) 3 [] Value.none Value.none Value.none (Value.str (Str.ofString "law_ij0113_01") 2327) none (Value.ref 170) Value.none 0)) #[]
noncomputable def o172_22 (P : Params) : Obj := Obj.mk (Value.type "tuple") none (Data.seq #[]) #[]
noncomputable def o173_22 (P : Params) : Obj := Obj.mk Value.none none (Data.fields #[]) #[]
noncomputable def o174_22 (P : Params) : Obj := Obj.mk Value.none none (Data.func (FuncData.mk (Str.ofString "_law_prepared") (Str.ofString "_law_prepared") (fdP (stAt 20)) (fdB (stAt 20)) (fdS (stAt 20)) 0 [] Value.none Value.none Value.none Value.none none Value.none Value.none 0)) #[]
noncomputable def o175_22 (P : Params) : Obj := Obj.mk (Value.type "code") none (Data.fields #[Value.str (Str.ofString "_law_prepared") 2349, Value.str (Str.ofString "_law_prepared") 2350, Value.str (Str.ofString "/claim/cut.py") 2351, Value.int 99 0, Value.int 1 0, Value.int 0 0, Value.int 0 0, Value.int 3 0, Value.ref 172, Value.bool true, Value.int 181 0, Value.ref 173, Value.none, Value.none, Value.none, Value.ref 174, Value.int 2352 0, Value.int 99 0, Value.str (Str.ofString "/claim/cut.py") 2353]) #[]
noncomputable def o176_22 (P : Params) : Obj := Obj.mk (Value.type "function") none (Data.func (FuncData.mk (Str.ofString "_law_prepared") (Str.ofString "_law_prepared") (fdP (stAt 20)) (fdB (stAt 20)) (fdS (stAt 20)) 3 [] Value.none Value.none Value.none (Value.str (Str.ofString "law_ij0113_01") 2327) none (Value.ref 175) Value.none 0)) #[]
noncomputable def o177_22 (P : Params) : Obj := Obj.mk (Value.type "tuple") none (Data.seq #[]) #[]
noncomputable def o178_22 (P : Params) : Obj := Obj.mk Value.none none (Data.fields #[]) #[]
noncomputable def o179_22 (P : Params) : Obj := Obj.mk Value.none none (Data.func (FuncData.mk (Str.ofString "law") (Str.ofString "law") (fdP (stAt 21)) (fdB (stAt 21)) (fdS (stAt 21)) 0 [] Value.none Value.none Value.none Value.none none Value.none Value.none 0)) #[]
noncomputable def o180_22 (P : Params) : Obj := Obj.mk (Value.type "code") none (Data.fields #[Value.str (Str.ofString "law") 2355, Value.str (Str.ofString "law") 2356, Value.str (Str.ofString "/claim/cut.py") 2357, Value.int 101 0, Value.int 1 0, Value.int 0 0, Value.int 0 0, Value.int 3 0, Value.ref 177, Value.bool true, Value.int 181 0, Value.ref 178, Value.none, Value.none, Value.none, Value.ref 179, Value.int 2358 0, Value.int 101 0, Value.str (Str.ofString "/claim/cut.py") 2359]) #[]
noncomputable def o181_22 (P : Params) : Obj := Obj.mk (Value.type "function") none (Data.func (FuncData.mk (Str.ofString "law") (Str.ofString "law") (fdP (stAt 21)) (fdB (stAt 21)) (fdS (stAt 21)) 3 [] Value.none Value.none Value.none (Value.str (Str.ofString "law_ij0113_01") 2327) none (Value.ref 180) Value.none 0)) #[]
noncomputable def T7 (P : Params) : BT := (.node (boot_o_0 P) (.node (boot_o_1 P) (.node (o3_22 P) (.node (boot_o_7 P) (.node (o15_9 P) (.node (o31_9 P) (.node (o63_10 P) (.node (oSub 14 P) .nil .nil) .nil) (.node (o95_14 P) (.node (o159_22 P) .nil .nil) .nil)) (.node (o47_9 P) (.node (o79_10 P) (.node (oSub 30 P) .nil .nil) .nil) (.node (o111_15 P) (.node (o175_22 P) .nil .nil) .nil))) (.node (o23_9 P) (.node (o39_9 P) (.node (o71_10 P) (.node (oSub 22 P) .nil .nil) .nil) (.node (o103_14 P) (.node (o167_22 P) .nil .nil) .nil)) (.node (o55_10 P) (.node (o87_13 P) (.node (o151_22 P) .nil .nil) .nil) (.node (oSub 6 P) .nil .nil)))) (.node (o11_0 P) (.node (o19_9 P) (.node (o35_9 P) (.node (o67_10 P) (.node (oSub 18 P) .nil .nil) .nil) (.node (o99_14 P) (.node (o163_22 P) .nil .nil) .nil)) (.node (o51_10 P) (.node (o83_10 P) (.node (oSub 34 P) .nil .nil) .nil) (.node (oSub 2 P) (.node (o179_22 P) .nil .nil) .nil))) (.node (o27_9 P) (.node (o43_9 P) (.node (o75_10 P) (.node (oSub 26 P) .nil .nil) .nil) (.node (o107_15 P) (.node (o171_22 P) .nil .nil) .nil)) (.node (o59_10 P) (.node (o91_13 P) (.node (o155_22 P) .nil .nil) .nil) (.node (oSub 10 P) .nil .nil))))) (.node (boot_o_5 P) (.node (boot_o_9 P) (.node (o17_9 P) (.node (o33_9 P) (.node (o65_10 P) (.node (oSub 16 P) .nil .nil) .nil) (.node (o97_14 P) (.node (o161_22 P) .nil .nil) .nil)) (.node (o49_9 P) (.node (o81_10 P) (.node (oSub 32 P) .nil .nil) .nil) (.node (oSub 0 P) (.node (o177_22 P) .nil .nil) .nil))) (.node (o25_9 P) (.node (o41_9 P) (.node (o73_10 P) (.node (oSub 24 P) .nil .nil) .nil) (.node (o105_15 P) (.node (o169_22 P) .nil .nil) .nil)) (.node (o57_10 P) (.node (o89_13 P) (.node (o153_22 P) .nil .nil) .nil) (.node (oSub 8 P) .nil .nil)))) (.node (o13_0 P) (.node (o21_9 P) (.node (o37_9 P) (.node (o69_10 P) (.node (oSub 20 P) .nil .nil) .nil) (.node (o101_14 P) (.node (o165_22 P) .nil .nil) .nil)) (.node (o53_10 P) (.node (o85_10 P) (.node (oSub 36 P) .nil .nil) .nil) (.node (oSub 4 P) (.node (o181_22 P) .nil .nil) .nil))) (.node (o29_9 P) (.node (o45_9 P) (.node (o77_10 P) (.node (oSub 28 P) .nil .nil) .nil) (.node (o109_15 P) (.node (o173_22 P) .nil .nil) .nil)) (.node (o61_10 P) (.node (o93_13 P) (.node (o157_22 P) .nil .nil) .nil) (.node (oSub 12 P) .nil .nil)))))) (.node (boot_o_2 P) (.node (boot_o_4 P) (.node (boot_o_8 P) (.node (o16_9 P) (.node (o32_9 P) (.node (o64_10 P) (.node (oSub 15 P) .nil .nil) .nil) (.node (o96_14 P) (.node (o160_22 P) .nil .nil) .nil)) (.node (o48_9 P) (.node (o80_10 P) (.node (oSub 31 P) .nil .nil) .nil) (.node (oBig P) (.node (o176_22 P) .nil .nil) .nil))) (.node (o24_9 P) (.node (o40_9 P) (.node (o72_10 P) (.node (oSub 23 P) .nil .nil) .nil) (.node (o104_14 P) (.node (o168_22 P) .nil .nil) .nil)) (.node (o56_10 P) (.node (o88_13 P) (.node (o152_22 P) .nil .nil) .nil) (.node (oSub 7 P) .nil .nil)))) (.node (o12_22 P) (.node (o20_9 P) (.node (o36_9 P) (.node (o68_10 P) (.node (oSub 19 P) .nil .nil) .nil) (.node (o100_14 P) (.node (o164_22 P) .nil .nil) .nil)) (.node (o52_10 P) (.node (o84_10 P) (.node (oSub 35 P) .nil .nil) .nil) (.node (oSub 3 P) (.node (o180_22 P) .nil .nil) .nil))) (.node (o28_9 P) (.node (o44_9 P) (.node (o76_10 P) (.node (oSub 27 P) .nil .nil) .nil) (.node (o108_15 P) (.node (o172_22 P) .nil .nil) .nil)) (.node (o60_10 P) (.node (o92_13 P) (.node (o156_22 P) .nil .nil) .nil) (.node (oSub 11 P) .nil .nil))))) (.node (boot_o_6 P) (.node (boot_o_10 P) (.node (o18_9 P) (.node (o34_9 P) (.node (o66_10 P) (.node (oSub 17 P) .nil .nil) .nil) (.node (o98_14 P) (.node (o162_22 P) .nil .nil) .nil)) (.node (o50_10 P) (.node (o82_10 P) (.node (oSub 33 P) .nil .nil) .nil) (.node (oSub 1 P) (.node (o178_22 P) .nil .nil) .nil))) (.node (o26_9 P) (.node (o42_9 P) (.node (o74_10 P) (.node (oSub 25 P) .nil .nil) .nil) (.node (o106_15 P) (.node (o170_22 P) .nil .nil) .nil)) (.node (o58_10 P) (.node (o90_13 P) (.node (o154_22 P) .nil .nil) .nil) (.node (oSub 9 P) .nil .nil)))) (.node (o14_0 P) (.node (o22_9 P) (.node (o38_9 P) (.node (o70_10 P) (.node (oSub 21 P) .nil .nil) .nil) (.node (o102_14 P) (.node (o166_22 P) .nil .nil) .nil)) (.node (o54_10 P) (.node (o86_10 P) (.node (oSub 37 P) .nil .nil) .nil) (.node (oSub 5 P) .nil .nil))) (.node (o30_9 P) (.node (o46_9 P) (.node (o78_10 P) (.node (oSub 29 P) .nil .nil) .nil) (.node (o110_15 P) (.node (o174_22 P) .nil .nil) .nil)) (.node (o62_10 P) (.node (o94_14 P) (.node (o158_22 P) .nil .nil) .nil) (.node (oSub 13 P) .nil .nil)))))))
noncomputable def S7 (w : World) (os : OsState) : SharedT := ⟨T7 w.params, 182, boot_life, #[], boot_drawn, 2361, os⟩
end
end Mine
end
section
set_option maxHeartbeats 200000
open PySem PySem.W PyProof.Rows
set_option maxRecDepth 1000000
namespace Mine
theorem seg_quick {p : Program} {w : World} {n₀ : Nat} {ann : Option Value} {b n : Nat} {s : SharedT} {l : List Stmt} {env : Env} {c : Code} {q : Pos} {B : List Frame} {r : Option (Flow × SharedT × Code × Pos)}
    (h : PySem.W.Fast.tw10110043849684766642 PySem.W.Fast.tw14364793385576792824 p w n₀ ann b n s ⟨(PySem.W.Fast.tw12563942051412417395 l env).wrap doneF deadEnd id id, c, q, B⟩ = r) :
    segRunT treeTable p w n₀ ann b n s (piecesOf l env c q B) = r := by
  rw [PySem.W.Fast.te10110043849684766642, PySem.W.Fast.te14364793385576792824]
  unfold piecesOf
  rw [PySem.W.Fast.te12563942051412417395]
  exact h
end Mine
end
section
set_option maxHeartbeats 200000
open PySem PySem.W PyProof.Rows
set_option maxRecDepth 1000000
namespace Mine
theorem bind_top {α : Type} {tb : String → Option Builtin} {p : Program} {w : World} {n₀ : Nat} {ann : Option Value} {q : Pos} {x : Sem α} {g : α → Sem Flow} {K : Flow → Sem Fin} {H : Value → Sem Fin} {n N : Nat} {s s' r : Shared} {c c' : Code} {pos p' : Pos}
    (res : α → Flow) (f : Flow) (a₀ : α) (inj : ∀ a, res a = f → a = a₀)
    (h : segRun tb p w n₀ ann 1 n s ⟨x.wrap (fun a => .pure (.done (res a))) deadEnd id id, c, pos, [topFrame q]⟩ = some (f, s', c', p'))
    (k : topRun tb p w n₀ ann N s' ⟨(g a₀).wrap K H id id, c', p', [topFrame q]⟩ = some r) :
    topRun tb p w n₀ ann (n + N) s ⟨(x.bind g).wrap K H id id, c, pos, [topFrame q]⟩ = some r := by
  obtain ⟨a, ha, hN⟩ := seg_top (res := res) (K' := fun a => (g a).wrap K H id id) (H' := H) (B := [topFrame q]) rfl n s ⟨x.wrap (fun a => .pure (.done (res a))) deadEnd id id, c, pos, [topFrame q]⟩ ⟨x.wrap (fun a => (g a).wrap K H id id) H id id, c, pos, [topFrame q]⟩ _ _ _ _ ⟨rfl, rfl, .inl ⟨rfl, rfl, _, rfl, rfl⟩⟩ h
  obtain rfl := inj a ha
  have := hN N r k
  rw [Sem.bind_eq_wrap, Sem.wrap_wrap]
  exact this

noncomputable section
noncomputable def iB (a b : Int) : Bool :=
  @Int.rec (fun _ => Bool) (fun m => @Int.rec (fun _ => Bool) (fun n => Nat.beq m n) (fun _ => false) b) (fun m => @Int.rec (fun _ => Bool) (fun _ => false) (fun n => Nat.beq m n) b) a
theorem iB_eq (a b : Int) : iB a b = (a == b) := by
  have hn (m n : Nat) : Nat.beq m n = true ↔ m = n := Nat.beq_eq ▸ Iff.rfl
  rw [Bool.eq_iff_iff, beq_iff_eq]
  cases a <;> cases b <;> simp only [iB, hn] <;> first | (constructor <;> intro h <;> cases h <;> rfl) | simp
noncomputable def plFrom (h : Int) (l : List DictEntry) : Nat → List Nat :=
  @List.rec DictEntry (fun _ => Nat → List Nat) (fun _ => []) (fun e _ ih i => @Bool.rec (fun _ => List Nat) (ih (Nat.succ i)) (i :: ih (Nat.succ i)) (iB e.hash h)) l
theorem plFrom_cons (h : Int) (e : DictEntry) (l : List DictEntry) (i : Nat) : plFrom h (e :: l) i = if e.hash == h then i :: plFrom h l (i + 1) else plFrom h l (i + 1) := by
  show @Bool.rec (fun _ => List Nat) (plFrom h l (Nat.succ i)) (i :: plFrom h l (Nat.succ i)) (iB e.hash h) = _
  rw [iB_eq]
  cases e.hash == h <;> rfl
theorem pl_gen (h : Int) (es : Array DictEntry) : ∀ (l : List DictEntry) (i : Nat), es.toList.drop i = l → (List.range' i l.length).filter (fun i => es[i]?.map (·.hash) == some h) = plFrom h l i
  | [], i, _ => rfl
  | e :: l, i, hd => by
    have hi : es[i]? = some e := by
      rw [← Array.getElem?_toList]
      have := congrArg List.head? hd
      rw [List.head?_drop] at this
      exact this
    have hn : es.toList.drop (i + 1) = l := by
      rw [← List.drop_drop, hd]; rfl
    rw [List.length_cons, List.range'_succ, List.filter_cons, hi, plFrom_cons, pl_gen h es l (i + 1) hn]
    simp only [Option.map_some]
    by_cases q : e.hash = h
    · simp [q]
    · simp [q]
theorem pl_eq (es : Array DictEntry) (h : Int) : placesWithHash es.size (fun i => es[i]?.map (·.hash)) h = plFrom h es.toList 0 := by
  unfold placesWithHash
  rw [List.range_eq_range']
  have := pl_gen h es es.toList 0 rfl
  rw [← this]
  simp
noncomputable def wR {α β : Type} (K : α → Sem β) (H : Value → Sem β) (m : Sem α) : Sem β :=
  Sem.rec (motive := fun _ => Sem β) (pure := K) (raise := H) (unsupported := fun w => .unsupported w) (finish := fun e => .finish e) (rule := fun t _ ih => .rule t ih) («at» := fun p _ ih => .at p ih)
    (load := fun a p _ ih => .load a p ih) (update := fun a p g _ ih => .update a p g ih) (alloc := fun o _ ih => .alloc o ih) (loadIfAlive := fun a _ ih => .loadIfAlive a ih) (point := fun l _ ih => .point l ih)
    (register := fun a _ ih => .register a ih) (fresh := fun _ ih => .fresh ih) (ask := fun _ ih => .ask ih) (choose := fun s n _ ih => .choose s n ih) (os := fun q l _ ih => .os q l ih) (call := fun c h g l _ ih => .call c h g l ih)
    (handled := fun o _ ih => .handled o ih) (newGen := fun c _ ih => .newGen c ih) (genState := fun g _ ih => .genState g ih) (resume := fun g r l _ ih => .resume g r l ih) («yield» := fun v g l _ ih => .yield v g l ih)
    (stack := fun _ ih => .stack ih) (fork := fun c _ ih => .fork c ih) (thread := fun _ ih => .thread ih) (await := fun a t d l _ ih => .await a t d l ih) m
theorem wR_eq {α β : Type} (K : α → Sem β) (H : Value → Sem β) (m : Sem α) : m.wrap K H id id = wR K H m := by
  induction m <;> simp only [Sem.wrap, id, *] <;> rfl
noncomputable def forS {α σ : Type} (l : List α) (s : σ) (f : α → σ → Sem (ForInStep σ)) : Sem σ :=
  List.rec (motive := fun _ => σ → Sem σ) (fun s => .pure s) (fun a _ ih s => R.bindR (f a s) fun r => ForInStep.rec (motive := fun _ => Sem σ) (fun s => .pure s) (fun s => ih s) r) l s
theorem forS_eq {α σ : Type} (l : List α) (s : σ) (f : α → σ → Sem (ForInStep σ)) : (forIn l s f : Sem σ) = forS l s f := by
  induction l generalizing s with
  | nil => exact List.forIn_nil
  | cons a l ih =>
    rw [List.forIn_cons]
    show Sem.bind _ _ = R.bindR (f a s) _
    rw [R.bindR_eq]
    congr 1
    funext r
    cases r with
    | done b => rfl
    | yield b => exact ih b
theorem mb {α β : Type} (x : Sem α) (f : α → Sem β) : (x >>= f) = R.bindR x f := by rw [← R.bindR_eq]; rfl
noncomputable def findX : { f // @dictFind = f } := ⟨_, by funext d key h; unfold dictFind; rewrite [PySem.W.Fast.te17359229931016689406, PySem.W.Fast.te1156441195427279134, PySem.W.Fast.te17029171927554795714]; simp only [pl_eq, mb, forS_eq] <;> rfl⟩
noncomputable def pushC (a : Array DictEntry) (e : DictEntry) : Array DictEntry := ⟨R.concatR a.toList e⟩
theorem push_eq (a : Array DictEntry) (e : DictEntry) : a.push e = pushC a e := by
  unfold pushC
  rw [← R.concatR_eq]
  rfl
noncomputable def pastX : Data → Option String
  | .dict es _ => @Bool.rec (fun _ => Option String) (some "dict:memory") none (Nat.ble (R.lengthR es.toList) (sizeLine + 1))
  | d => d.pastItsLine
theorem pastX_eq : @Data.pastItsLine = pastX := by
  funext d
  cases d with
  | dict es n =>
    show (if es.size > sizeLine + 1 then some "dict:memory" else none) = @Bool.rec (fun _ => Option String) (some "dict:memory") none (Nat.ble (R.lengthR es.toList) (sizeLine + 1))
    rw [← R.lengthR_eq]
    cases e : Nat.ble es.toList.length (sizeLine + 1) with
    | false =>
      have : ¬ es.size ≤ sizeLine + 1 := fun q => by have := Nat.ble_eq_true_of_le q; simp_all
      exact if_pos (Nat.lt_of_not_le this)
    | true =>
      have := Nat.le_of_ble_eq_true e
      exact if_neg (Nat.not_lt_of_le this)
  | _ => rfl
noncomputable def updKX : { f // @updateDictKeys = f } := ⟨_, by funext a f part; unfold updateDictKeys lookBehind; rewrite [pastX_eq]; simp only [mb] <;> rfl⟩
noncomputable def putX : { f // @dictPut = f } := ⟨_, by funext d h key v; unfold dictPut; rewrite [findX.2, updKX.2, PySem.W.Fast.te55756146738185829]; simp only [push_eq, mb] <;> rfl⟩
noncomputable def setHX : { f // @dictSetHashed = f } := ⟨_, by funext d h key v; unfold dictSetHashed; rewrite [findX.2, updKX.2, PySem.W.Fast.te55756146738185829]; simp only [push_eq, mb] <;> rfl⟩
noncomputable def hB : Value := .builtin "int.__hash__"
theorem hash_own (k : Int) (t : Tok) : specialOf (.int k t) "__hash__" = .pure (some hB) := by kernel_rfl
theorem hash_bind (v : Value) : bindSpecial hB v = .pure (hB, [v]) := by kernel_rfl
theorem hash_bound (k : Int) (t : Tok) : bindSpecialIfBound? (.int k t) "__hash__" = .ask fun _ => .pure (some (hB, [.int k t])) := by
  unfold bindSpecialIfBound?
  rw [hash_own]
  show Sem.ask _ = _
  congr 1
  funext s
  rw [hash_bind]
  show (if s.params.followText "special-get-raises" = true then _ else _) = _
  split <;> rfl
noncomputable def hashR (k : Int) (t : Tok) : { f : Value → Sem Int // pyHash (.int k t) = .ask fun _ => (call hB [.int k t]).bind f } := ⟨_, by
  show pyHashByItsType (.int k t) = _
  unfold pyHashByItsType callSpecialIfBoundUnlessNone?
  rw [hash_bound, hash_own]
  show Sem.ask _ = Sem.ask _
  congr 1
  funext s
  show ((call hB [.int k t]).bind fun v => Sem.pure (some v)).bind _ = _
  simp only [Sem.bind_eq_wrap, Sem.wrap_wrap]
  rfl⟩
noncomputable def hashX : Value → Sem Int
  | .int k t => .ask fun _ => (call hB [.int k t]).bind (hashR k t).1
  | v => pyHash v
theorem hashX_eq : @pyHash = hashX := by
  funext v
  cases v with
  | int k t => exact (hashR k t).2
  | _ => rfl
noncomputable def setX : { f // @dictSet = f } := ⟨_, by funext d h key; unfold dictSet; rewrite [setHX.2, hashX_eq, PySem.W.Fast.te17359229931016689406]; simp only [mb] <;> rfl⟩
noncomputable def mergeX : { f // @mergeMapping = f } := ⟨_, by funext d m u; unfold mergeMapping; rewrite [putX.2, setX.2, findX.2, PySem.W.Fast.te17359229931016689406, PySem.W.Fast.te1156441195427279134, PySem.W.Fast.te8314933798227046258, PySem.W.Fast.te6571733998842723752, PySem.W.Fast.te4214721358667687652]; simp only [mb, forS_eq] <;> rfl⟩
noncomputable def subX : { f // @subDict = f } := ⟨_, by funext d; unfold subDict; rewrite [setX.2, PySem.W.Fast.te17359229931016689406]; simp only [mb, forS_eq] <;> rfl⟩
noncomputable abbrev DSt := Option Addr × List (Sem Value × Sem Value)
noncomputable abbrev DItem := Option (Sem Value) × Sem Value
noncomputable def ddX : { bf : (DItem → DSt → Sem (ForInStep DSt)) × (DSt → Sem Value) // ∀ items, dictDisplay items = R.bindR (forIn items ((none, []) : DSt) bf.1) bf.2 } :=
  ⟨(_, _), fun items => by unfold dictDisplay; rewrite [subX.2, mergeX.2, PySem.W.Fast.te17359229931016689406, R.onRaiseR_eq]; simp only [mb] <;> rfl⟩
theorem ddX_eq (items : List DItem) : dictDisplay items = (forIn items ((none, []) : DSt) ddX.1.1 : Sem DSt).bind ddX.1.2 := (ddX.2 items).trans (by rw [R.bindR_eq])
theorem yield_bind {X : Sem (Option Addr)} : ∃ m : Sem DSt, (R.bindR X fun m => (pure (ForInStep.yield (m, ([] : List (Sem Value × Sem Value)))) : Sem (ForInStep DSt))) = m.bind fun s' => .pure (.yield s') :=
  ⟨X.bind fun m => .pure (m, []), by
    rw [← R.bindR_eq]
    simp only [Sem.bind_eq_wrap, Sem.wrap_wrap]
    rfl⟩
theorem dd_yields : ∀ (k v : Sem Value) (s : DSt), ∃ m : Sem DSt, ddX.1.1 (some k, v) s = m.bind fun s' => .pure (.yield s') := by
  intro k v ⟨main, run⟩
  by_cases h : ((run ++ [(k, v)]).length == 17) = true
  · have e : ddX.1.1 (some k, v) (main, run) = if ((run ++ [(k, v)]).length == 17) = true then _ else _ := rfl
    rw [e, if_pos h]
    exact yield_bind
  · have e : ddX.1.1 (some k, v) (main, run) = if ((run ++ [(k, v)]).length == 17) = true then _ else _ := rfl
    rw [e, if_neg h]
    exact ⟨.pure (main, run ++ [(k, v)]), rfl⟩
theorem forIn_split {body : DItem → DSt → Sem (ForInStep DSt)} (hb : ∀ (k v : Sem Value) (s : DSt), ∃ m : Sem DSt, body (some k, v) s = m.bind fun s' => .pure (.yield s')) (ys : List DItem) :
    ∀ (xs : List DItem) (s : DSt), xs.all (fun x => x.1.isSome) = true → (forIn (xs ++ ys) s body : Sem DSt) = (forIn xs s body : Sem DSt).bind fun s' => forIn ys s' body
  | [], s, _ => rfl
  | (none, v) :: xs, s, h => by simp at h
  | (some k, v) :: xs, s, h => by
    have h' : xs.all (fun x => x.1.isSome) = true := by simpa using h
    obtain ⟨m, e⟩ := hb k v s
    rw [List.cons_append, List.forIn_cons, List.forIn_cons, e]
    have ih := forIn_split hb ys xs
    show ((m.bind _).bind _) = ((m.bind _).bind _).bind _
    simp only [Sem.bind_eq_wrap, Sem.wrap_wrap]
    refine Sem.wrap_congr _ _ _ (fun s' => ?_) fun _ => rfl
    simp only [Sem.wrap]
    have := ih s' h'
    rw [Sem.bind_eq_wrap] at this
    exact this
end
end Mine
end
section
set_option maxHeartbeats 200000
open PySem PySem.W PyProof.Rows
set_option maxRecDepth 1000000
namespace Mine
noncomputable section
noncomputable def dKeys : List (Option PySem.Expr) := match stAt 15 with | .Assign _ (.Dict ks _ _) _ => ks | _ => []
noncomputable def dVals : List PySem.Expr := match stAt 15 with | .Assign _ (.Dict _ vs _) _ => vs | _ => []
noncomputable def dPos : Pos := match stAt 15 with | .Assign _ (.Dict _ _ p) _ => p | _ => p0
noncomputable def aPos : Pos := match stAt 15 with | .Assign _ _ p => p | _ => p0
noncomputable def itemsAll : List DItem := (evalEachOpt dKeys envT).zip ((evalEach dVals envT).map fun v => do let x ← v; standAt dPos; pure x)
noncomputable def chunk (k : Nat) : List DItem := (itemsAll.drop (17 * k)).take 17
noncomputable def oMain (k : Nat) : Obj := ⟨.type "dict", none, .dict (bigEs.take (17 * k)).toArray (17 * k), #[]⟩
noncomputable def addSubs (P : Params) : Nat → BT → BT
  | 0, t => t
  | k + 1, t => (addSubs P k t).ins (113 + k) (oSub k P)
noncomputable def Td (k : Nat) (P : Params) : BT := match k with
  | 0 => T5 P
  | k + 1 => addSubs P k ((T5 P).ins 112 (oMain (k + 1)))
noncomputable def nd : Nat → Nat
  | 0 => 112
  | k + 1 => 113 + k
noncomputable def Sd (k : Nat) (w : World) (os : OsState) : SharedT := ⟨Td k w.params, nd k, boot_life, #[], boot_drawn, 368 + 51 * k, os⟩
noncomputable def mainAt : Nat → Option Addr
  | 0 => none
  | _ + 1 => some 112
noncomputable def resD : DSt → Flow
  | (some d, []) => .ret (.ref d)
  | _ => .next
theorem resD_inj (a : DSt) (h : resD a = .ret (.ref 112)) : a = (some 112, []) := by
  obtain ⟨m, r⟩ := a
  cases m <;> cases r <;> simp [resD] at h
  · subst h; rfl
noncomputable abbrev thrD (x : Sem DSt) (p : Pos) : Thread := ⟨x.wrap (fun a => .pure (.done (resD a))) deadEnd id id, cT, p, [topFrame p0]⟩
theorem run_quick {p : Program} {w : World} {n₀ : Nat} {ann : Option Value} {b n : Nat} {s : SharedT} {t : Thread} {r : Option (Flow × SharedT × Code × Pos)}
    (h : PySem.W.Fast.tw10110043849684766642 PySem.W.Fast.tw14364793385576792824 p w n₀ ann b n s t = r) :
    segRunT treeTable p w n₀ ann b n s t = r := by
  rw [PySem.W.Fast.te10110043849684766642, PySem.W.Fast.te14364793385576792824]
  exact h
theorem run_chunk {w : World} {ann : Option Value} {n : Nat} {s : SharedT} {p : Pos} {l : List DItem} {s0 : DSt} {r : Option (Flow × SharedT × Code × Pos)}
    (h : PySem.W.Fast.tw10110043849684766642 PySem.W.Fast.tw14364793385576792824 pw w 11 ann 1 n s ⟨wR (fun a => .pure (.done (resD a))) deadEnd (forS l s0 ddX.1.1), cT, p, [topFrame p0]⟩ = r) :
    segRunT treeTable pw w 11 ann 1 n s (thrD (forIn l s0 ddX.1.1) p) = r := by
  unfold thrD
  rw [wR_eq, forS_eq]
  exact run_quick h
theorem run_last {w : World} {ann : Option Value} {n : Nat} {s : SharedT} {p : Pos} {l : List DItem} {s0 : DSt} {G : DSt → Sem Flow} {r : Option (Flow × SharedT × Code × Pos)}
    (h : PySem.W.Fast.tw10110043849684766642 PySem.W.Fast.tw14364793385576792824 pw w 11 ann 1 n s ⟨wR (fun a => .pure (.done a)) deadEnd (R.bindR (forS l s0 ddX.1.1) G), cT, p, [topFrame p0]⟩ = r) :
    segRunT treeTable pw w 11 ann 1 n s ⟨((forIn l s0 ddX.1.1 : Sem DSt).bind G).wrap (fun a => .pure (.done a)) deadEnd id id, cT, p, [topFrame p0]⟩ = r := by
  rw [wR_eq, forS_eq, R.bindR_eq]
  exact run_quick h
end
end Mine
end
section
set_option maxHeartbeats 200000
open PySem PySem.W PyProof.Rows
set_option maxRecDepth 1000000
namespace Mine
noncomputable section
noncomputable def dTgt : PySem.Expr := match stAt 15 with | .Assign [t] _ _ => t | _ => .Constant .none 0 p0
theorem st15_is : stAt 15 = .Assign [dTgt] (.Dict dKeys dVals dPos) aPos := by kernel_rfl
noncomputable def ZZ (t : PySem.Expr) (ks : List (Option PySem.Expr)) (vs : List PySem.Expr) (dp : Pos) (env : Env) (v : Value) : Sem Flow := (swappedStores [t] (.Dict ks vs dp) env).bind fun sw => assignStores env v sw ((assignEach [t] env).map (·.2))
noncomputable def itemsOf (ks : List (Option PySem.Expr)) (vs : List PySem.Expr) (dp : Pos) (env : Env) : List DItem := (evalEachOpt ks env).zip ((evalEach vs env).map fun v => do let x ← v; standAt dp; pure x)
theorem exec_dict (t : PySem.Expr) (ks : List (Option PySem.Expr)) (vs : List PySem.Expr) (dp ap : Pos) (env : Env) : exec (.Assign [t] (.Dict ks vs dp) ap) env = (standAt ap).bind fun _ => (standAt dp).bind fun _ => (forIn (itemsOf ks vs dp env) ((none, []) : DSt) ddX.1.1 : Sem DSt).bind fun s => (ddX.1.2 s).bind (ZZ t ks vs dp env) := by
  show (standAt ap).bind _ = _
  congr 1
  funext _
  show (Sem.bind (eval (.Dict ks vs dp) env) (ZZ t ks vs dp env)) = _
  show ((standAt dp).bind fun _ => dictDisplay (itemsOf ks vs dp env)).bind (ZZ t ks vs dp env) = _
  rw [ddX_eq]
  simp only [Sem.bind_eq_wrap, Sem.wrap_wrap]
  refine Sem.wrap_congr _ _ _ (fun _ => ?_) fun _ => rfl
  refine Sem.wrap_congr _ _ _ (fun s => ?_) fun _ => rfl
  rfl
noncomputable def G15 (s : DSt) : Sem Flow := (ddX.1.2 s).bind (ZZ dTgt dKeys dVals dPos envT)
theorem exec15 : exec (stAt 15) envT = (standAt aPos).bind fun _ => (standAt dPos).bind fun _ => (forIn itemsAll ((none, []) : DSt) ddX.1.1 : Sem DSt).bind G15 := by
  rw [st15_is]
  exact exec_dict dTgt dKeys dVals dPos aPos envT
theorem items_some : itemsAll.all (fun x => x.1.isSome) = true := by kernel_rfl
theorem chunk_some (k : Nat) : (chunk k).all (fun x => x.1.isSome) = true := by
  rw [List.all_eq_true]
  intro x hx
  exact List.all_eq_true.mp items_some x (List.mem_of_mem_drop (List.mem_of_mem_take hx))
theorem drop_chunk (k : Nat) : itemsAll.drop (17 * k) = chunk k ++ itemsAll.drop (17 * (k + 1)) := by
  unfold chunk
  rw [show 17 * (k + 1) = 17 * k + 17 by omega, ← List.drop_drop, List.take_append_drop]
theorem dstep {w : World} {os : OsState} {k n N : Nat} {r : Shared} {G : DSt → Sem Flow} {K : Flow → Sem Fin} {H : Value → Sem Fin} {ann : Option Value}
    (h : segRunT treeTable pw w 11 ann 1 n (Sd k w os) (thrD (forIn (chunk k) ((mainAt k, []) : DSt) ddX.1.1) dPos) = some (.ret (.ref 112), Sd (k + 1) w os, cT, dPos))
    (q : topRun treeTable pw w 11 ann N (Sd (k + 1) w os).abs ⟨((forIn (itemsAll.drop (17 * (k + 1))) ((mainAt (k + 1), []) : DSt) ddX.1.1 : Sem DSt).bind G).wrap K H id id, cT, dPos, [topFrame p0]⟩ = some r) :
    topRun treeTable pw w 11 ann (n + N) (Sd k w os).abs ⟨((forIn (itemsAll.drop (17 * k)) ((mainAt k, []) : DSt) ddX.1.1 : Sem DSt).bind G).wrap K H id id, cT, dPos, [topFrame p0]⟩ = some r := by
  rw [drop_chunk k, forIn_split dd_yields _ _ _ (chunk_some k)]
  have e : (((forIn (chunk k) ((mainAt k, []) : DSt) ddX.1.1 : Sem DSt).bind fun s' => (forIn (itemsAll.drop (17 * (k + 1))) s' ddX.1.1 : Sem DSt)).bind G) =
      (forIn (chunk k) ((mainAt k, []) : DSt) ddX.1.1 : Sem DSt).bind fun s' => (forIn (itemsAll.drop (17 * (k + 1))) s' ddX.1.1 : Sem DSt).bind G := by
    simp only [Sem.bind_eq_wrap, Sem.wrap_wrap]
    refine Sem.wrap_congr _ _ _ (fun s => ?_) fun _ => rfl
    rfl
  rw [e]
  exact bind_top resD (.ret (.ref 112)) (mainAt (k + 1), []) resD_inj (segRun_of h) q
/-- a tree that ends in a flow -/
theorem last_top {tb : String → Option Builtin} {p : Program} {w : World} {n₀ : Nat} {ann : Option Value} {q : Pos} {x : Sem Flow} {K : Flow → Sem Fin} {H : Value → Sem Fin} {n N : Nat} {s s' r : Shared} {c c' : Code} {pos p' : Pos} {f : Flow}
    (h : segRun tb p w n₀ ann 1 n s ⟨x.wrap (fun a => .pure (.done a)) deadEnd id id, c, pos, [topFrame q]⟩ = some (f, s', c', p'))
    (k : topRun tb p w n₀ ann N s' ⟨K f, c', p', [topFrame q]⟩ = some r) :
    topRun tb p w n₀ ann (n + N) s ⟨x.wrap K H id id, c, pos, [topFrame q]⟩ = some r := by
  obtain ⟨a, ha, hN⟩ := seg_top (res := id) (K' := K) (H' := H) (B := [topFrame q]) rfl n s ⟨x.wrap (fun a => .pure (.done a)) deadEnd id id, c, pos, [topFrame q]⟩ ⟨x.wrap K H id id, c, pos, [topFrame q]⟩ _ _ _ _ ⟨rfl, rfl, .inl ⟨rfl, rfl, _, rfl, rfl⟩⟩ h
  obtain rfl : a = f := ha
  exact hN N r k
end
end Mine
end
section
open PySem PySem.W PyProof.Rows
set_option maxRecDepth 1000000
set_option maxHeartbeats 0
namespace Mine
theorem pc0 (w : World) (os : OsState) : segRunT treeTable pw w 11 (some (.ref 6)) 1 191 (S0 w os) (piecesOf (sts 0 9) envT cT p0 [topFrame p0]) = some (.next, S1 w os, cT, ⟨46, 0, 46, 8⟩) := seg_quick (by kernel_rfl)
theorem pc1 (w : World) (os : OsState) : segRunT treeTable pw w 11 (some (.ref 6)) 1 318 (S1 w os) (piecesOf (sts 9 10) envT cT ⟨46, 0, 46, 8⟩ [topFrame p0]) = some (.next, S2 w os, cT, ⟨47, 0, 65, 27⟩) := seg_quick (by kernel_rfl)
theorem pc2 (w : World) (os : OsState) : segRunT treeTable pw w 11 (some (.ref 6)) 1 49 (S2 w os) (piecesOf (sts 10 13) envT cT ⟨47, 0, 65, 27⟩ [topFrame p0]) = some (.next, S3 w os, cT, ⟨69, 0, 69, 8⟩) := seg_quick (by kernel_rfl)
theorem pc4 (w : World) (os : OsState) : segRunT treeTable pw w 11 (some (.ref 6)) 1 30 (S4 w os) (piecesOf (sts 14 15) envT cT ⟨70, 0, 70, 6⟩ [topFrame p0]) = some (.next, S5 w os, cT, ⟨71, 0, 72, 30⟩) := seg_quick (by kernel_rfl)
theorem pc6 (w : World) (os : OsState) : segRunT treeTable pw w 11 (some (.ref 6)) 1 156 (S6 w os) (piecesOf (sts 16 22) envT cT ⟨73, 0, 73, 13⟩ [topFrame p0]) = some (.next, S7 w os, cT, ⟨101, 0, 132, 63⟩) := seg_quick (by kernel_rfl)
theorem dst (w : World) (os : OsState) (p q : Pos) : segRunT treeTable pw w 11 (some (.ref 6)) 1 2 (S5 w os) ⟨(standAt q).wrap (fun _ => .pure (.done .next)) deadEnd id id, cT, p, [topFrame p0]⟩ = some (.next, S5 w os, cT, q) := by kernel_rfl
theorem pre0 (w : World) (os : OsState) : topGo treeTable pw w 11 (some (.ref 6)) 12 ⟨boot_heap w.params, #[], boot_drawn, boot_toks, os⟩ (topStub pw) = some ((S0 w os).abs, ⟨denote treeTable cT, cT, p0, [topFrame p0]⟩) := by kernel_rfl
theorem block0 (w : World) (os : OsState) : segRunT treeTable pw w 11 (some (.ref 6)) 1 1 (S0 w os) (blockOf (behindTheImports pw) envT cT p0 [topFrame p0]) = some (.next, S0 w os, cT, p0) := by kernel_rfl
theorem fin0 (w : World) (os : OsState) : topRun treeTable pw w 11 (some (.ref 6)) 2 (S7 w os).abs ⟨doneF .next, cT, ⟨101, 0, 132, 63⟩, [topFrame p0]⟩ = some (S7 w os).abs := by kernel_rfl
theorem body_is : behindTheImports pw = sts 0 9 ++ (sts 9 10 ++ (sts 10 13 ++ (sts 13 14 ++ (sts 14 15 ++ (stAt 15 :: (sts 16 22 ++ [])))))) := by kernel_rfl
theorem topRun_mono' {tb : String → Option Builtin} {p : Program} {w : World} {n₀ : Nat} {ann : Option Value} {n m : Nat} {s : Shared} {t : Thread} {r : Shared} (h : n ≤ m) (q : topRun tb p w n₀ ann n s t = some r) : topRun tb p w n₀ ann m s t = some r := by
  have := topRun_mono (m - n) n s t r q
  rw [show n + (m - n) = m by omega] at this
  exact this
theorem pc3f (w : World) (os : OsState) : segRunT treeTable pw (w.withFollow "special-get-raises" false) 11 (some (.ref 6)) 1 999 (S3 (w.withFollow "special-get-raises" false) os) (piecesOf (sts 13 14) envT cT ⟨69, 0, 69, 8⟩ [topFrame p0]) = some (.next, S4 (w.withFollow "special-get-raises" false) os, cT, ⟨70, 0, 70, 6⟩) := seg_quick (by kernel_rfl)
theorem pc3t (w : World) (os : OsState) : segRunT treeTable pw (w.withFollow "special-get-raises" true) 11 (some (.ref 6)) 1 999 (S3 (w.withFollow "special-get-raises" true) os) (piecesOf (sts 13 14) envT cT ⟨69, 0, 69, 8⟩ [topFrame p0]) = some (.next, S4 (w.withFollow "special-get-raises" true) os, cT, ⟨70, 0, 70, 6⟩) := seg_quick (by kernel_rfl)
theorem dl (w : World) (os : OsState) : segRunT treeTable pw w 11 (some (.ref 6)) 1 1000 (Sd 38 w os) ⟨((forIn (itemsAll.drop (17 * 38)) ((mainAt 38, []) : DSt) ddX.1.1 : Sem DSt).bind G15).wrap (fun a => .pure (.done a)) deadEnd id id, cT, dPos, [topFrame p0]⟩ = some (.next, S6 w os, cT, ⟨73, 0, 73, 13⟩) := run_last (by kernel_rfl)
end Mine
end
section
open PySem PySem.W PyProof.Rows
set_option maxRecDepth 1000000
set_option maxHeartbeats 0
namespace Mine
theorem dk0 (w : World) (os : OsState) : segRunT treeTable pw w 11 (some (.ref 6)) 1 1000 (Sd 0 w os) (thrD (forIn (chunk 0) ((mainAt 0, []) : DSt) ddX.1.1) dPos) = some (.ret (.ref 112), Sd (0 + 1) w os, cT, dPos) := run_chunk (by kernel_rfl)
theorem dk1 (w : World) (os : OsState) : segRunT treeTable pw w 11 (some (.ref 6)) 1 1000 (Sd 1 w os) (thrD (forIn (chunk 1) ((mainAt 1, []) : DSt) ddX.1.1) dPos) = some (.ret (.ref 112), Sd (1 + 1) w os, cT, dPos) := run_chunk (by kernel_rfl)
theorem dk2 (w : World) (os : OsState) : segRunT treeTable pw w 11 (some (.ref 6)) 1 1000 (Sd 2 w os) (thrD (forIn (chunk 2) ((mainAt 2, []) : DSt) ddX.1.1) dPos) = some (.ret (.ref 112), Sd (2 + 1) w os, cT, dPos) := run_chunk (by kernel_rfl)
theorem dk3 (w : World) (os : OsState) : segRunT treeTable pw w 11 (some (.ref 6)) 1 1000 (Sd 3 w os) (thrD (forIn (chunk 3) ((mainAt 3, []) : DSt) ddX.1.1) dPos) = some (.ret (.ref 112), Sd (3 + 1) w os, cT, dPos) := run_chunk (by kernel_rfl)
theorem dk4 (w : World) (os : OsState) : segRunT treeTable pw w 11 (some (.ref 6)) 1 1000 (Sd 4 w os) (thrD (forIn (chunk 4) ((mainAt 4, []) : DSt) ddX.1.1) dPos) = some (.ret (.ref 112), Sd (4 + 1) w os, cT, dPos) := run_chunk (by kernel_rfl)
theorem dk5 (w : World) (os : OsState) : segRunT treeTable pw w 11 (some (.ref 6)) 1 1000 (Sd 5 w os) (thrD (forIn (chunk 5) ((mainAt 5, []) : DSt) ddX.1.1) dPos) = some (.ret (.ref 112), Sd (5 + 1) w os, cT, dPos) := run_chunk (by kernel_rfl)
theorem dk6 (w : World) (os : OsState) : segRunT treeTable pw w 11 (some (.ref 6)) 1 1000 (Sd 6 w os) (thrD (forIn (chunk 6) ((mainAt 6, []) : DSt) ddX.1.1) dPos) = some (.ret (.ref 112), Sd (6 + 1) w os, cT, dPos) := run_chunk (by kernel_rfl)
theorem dk7 (w : World) (os : OsState) : segRunT treeTable pw w 11 (some (.ref 6)) 1 1000 (Sd 7 w os) (thrD (forIn (chunk 7) ((mainAt 7, []) : DSt) ddX.1.1) dPos) = some (.ret (.ref 112), Sd (7 + 1) w os, cT, dPos) := run_chunk (by kernel_rfl)
theorem dk8 (w : World) (os : OsState) : segRunT treeTable pw w 11 (some (.ref 6)) 1 1000 (Sd 8 w os) (thrD (forIn (chunk 8) ((mainAt 8, []) : DSt) ddX.1.1) dPos) = some (.ret (.ref 112), Sd (8 + 1) w os, cT, dPos) := run_chunk (by kernel_rfl)
theorem dk9 (w : World) (os : OsState) : segRunT treeTable pw w 11 (some (.ref 6)) 1 1000 (Sd 9 w os) (thrD (forIn (chunk 9) ((mainAt 9, []) : DSt) ddX.1.1) dPos) = some (.ret (.ref 112), Sd (9 + 1) w os, cT, dPos) := run_chunk (by kernel_rfl)
theorem dk10 (w : World) (os : OsState) : segRunT treeTable pw w 11 (some (.ref 6)) 1 1000 (Sd 10 w os) (thrD (forIn (chunk 10) ((mainAt 10, []) : DSt) ddX.1.1) dPos) = some (.ret (.ref 112), Sd (10 + 1) w os, cT, dPos) := run_chunk (by kernel_rfl)
theorem dk11 (w : World) (os : OsState) : segRunT treeTable pw w 11 (some (.ref 6)) 1 1000 (Sd 11 w os) (thrD (forIn (chunk 11) ((mainAt 11, []) : DSt) ddX.1.1) dPos) = some (.ret (.ref 112), Sd (11 + 1) w os, cT, dPos) := run_chunk (by kernel_rfl)
theorem dk12 (w : World) (os : OsState) : segRunT treeTable pw w 11 (some (.ref 6)) 1 1000 (Sd 12 w os) (thrD (forIn (chunk 12) ((mainAt 12, []) : DSt) ddX.1.1) dPos) = some (.ret (.ref 112), Sd (12 + 1) w os, cT, dPos) := run_chunk (by kernel_rfl)
theorem dk13 (w : World) (os : OsState) : segRunT treeTable pw w 11 (some (.ref 6)) 1 1000 (Sd 13 w os) (thrD (forIn (chunk 13) ((mainAt 13, []) : DSt) ddX.1.1) dPos) = some (.ret (.ref 112), Sd (13 + 1) w os, cT, dPos) := run_chunk (by kernel_rfl)
end Mine
end
section
open PySem PySem.W PyProof.Rows
set_option maxRecDepth 1000000
set_option maxHeartbeats 0
namespace Mine
theorem dk14 (w : World) (os : OsState) : segRunT treeTable pw w 11 (some (.ref 6)) 1 1000 (Sd 14 w os) (thrD (forIn (chunk 14) ((mainAt 14, []) : DSt) ddX.1.1) dPos) = some (.ret (.ref 112), Sd (14 + 1) w os, cT, dPos) := run_chunk (by kernel_rfl)
theorem dk15 (w : World) (os : OsState) : segRunT treeTable pw w 11 (some (.ref 6)) 1 1000 (Sd 15 w os) (thrD (forIn (chunk 15) ((mainAt 15, []) : DSt) ddX.1.1) dPos) = some (.ret (.ref 112), Sd (15 + 1) w os, cT, dPos) := run_chunk (by kernel_rfl)
theorem dk16 (w : World) (os : OsState) : segRunT treeTable pw w 11 (some (.ref 6)) 1 1000 (Sd 16 w os) (thrD (forIn (chunk 16) ((mainAt 16, []) : DSt) ddX.1.1) dPos) = some (.ret (.ref 112), Sd (16 + 1) w os, cT, dPos) := run_chunk (by kernel_rfl)
theorem dk17 (w : World) (os : OsState) : segRunT treeTable pw w 11 (some (.ref 6)) 1 1000 (Sd 17 w os) (thrD (forIn (chunk 17) ((mainAt 17, []) : DSt) ddX.1.1) dPos) = some (.ret (.ref 112), Sd (17 + 1) w os, cT, dPos) := run_chunk (by kernel_rfl)
theorem dk18 (w : World) (os : OsState) : segRunT treeTable pw w 11 (some (.ref 6)) 1 1000 (Sd 18 w os) (thrD (forIn (chunk 18) ((mainAt 18, []) : DSt) ddX.1.1) dPos) = some (.ret (.ref 112), Sd (18 + 1) w os, cT, dPos) := run_chunk (by kernel_rfl)
theorem dk19 (w : World) (os : OsState) : segRunT treeTable pw w 11 (some (.ref 6)) 1 1000 (Sd 19 w os) (thrD (forIn (chunk 19) ((mainAt 19, []) : DSt) ddX.1.1) dPos) = some (.ret (.ref 112), Sd (19 + 1) w os, cT, dPos) := run_chunk (by kernel_rfl)
theorem dk20 (w : World) (os : OsState) : segRunT treeTable pw w 11 (some (.ref 6)) 1 1000 (Sd 20 w os) (thrD (forIn (chunk 20) ((mainAt 20, []) : DSt) ddX.1.1) dPos) = some (.ret (.ref 112), Sd (20 + 1) w os, cT, dPos) := run_chunk (by kernel_rfl)
theorem dk21 (w : World) (os : OsState) : segRunT treeTable pw w 11 (some (.ref 6)) 1 1000 (Sd 21 w os) (thrD (forIn (chunk 21) ((mainAt 21, []) : DSt) ddX.1.1) dPos) = some (.ret (.ref 112), Sd (21 + 1) w os, cT, dPos) := run_chunk (by kernel_rfl)
theorem dk22 (w : World) (os : OsState) : segRunT treeTable pw w 11 (some (.ref 6)) 1 1000 (Sd 22 w os) (thrD (forIn (chunk 22) ((mainAt 22, []) : DSt) ddX.1.1) dPos) = some (.ret (.ref 112), Sd (22 + 1) w os, cT, dPos) := run_chunk (by kernel_rfl)
theorem dk23 (w : World) (os : OsState) : segRunT treeTable pw w 11 (some (.ref 6)) 1 1000 (Sd 23 w os) (thrD (forIn (chunk 23) ((mainAt 23, []) : DSt) ddX.1.1) dPos) = some (.ret (.ref 112), Sd (23 + 1) w os, cT, dPos) := run_chunk (by kernel_rfl)
theorem dk24 (w : World) (os : OsState) : segRunT treeTable pw w 11 (some (.ref 6)) 1 1000 (Sd 24 w os) (thrD (forIn (chunk 24) ((mainAt 24, []) : DSt) ddX.1.1) dPos) = some (.ret (.ref 112), Sd (24 + 1) w os, cT, dPos) := run_chunk (by kernel_rfl)
theorem dk25 (w : World) (os : OsState) : segRunT treeTable pw w 11 (some (.ref 6)) 1 1000 (Sd 25 w os) (thrD (forIn (chunk 25) ((mainAt 25, []) : DSt) ddX.1.1) dPos) = some (.ret (.ref 112), Sd (25 + 1) w os, cT, dPos) := run_chunk (by kernel_rfl)
theorem dk26 (w : World) (os : OsState) : segRunT treeTable pw w 11 (some (.ref 6)) 1 1000 (Sd 26 w os) (thrD (forIn (chunk 26) ((mainAt 26, []) : DSt) ddX.1.1) dPos) = some (.ret (.ref 112), Sd (26 + 1) w os, cT, dPos) := run_chunk (by kernel_rfl)
end Mine
end
section
open PySem PySem.W PyProof.Rows
set_option maxRecDepth 1000000
set_option maxHeartbeats 0
namespace Mine
theorem dk27 (w : World) (os : OsState) : segRunT treeTable pw w 11 (some (.ref 6)) 1 1000 (Sd 27 w os) (thrD (forIn (chunk 27) ((mainAt 27, []) : DSt) ddX.1.1) dPos) = some (.ret (.ref 112), Sd (27 + 1) w os, cT, dPos) := run_chunk (by kernel_rfl)
theorem dk28 (w : World) (os : OsState) : segRunT treeTable pw w 11 (some (.ref 6)) 1 1000 (Sd 28 w os) (thrD (forIn (chunk 28) ((mainAt 28, []) : DSt) ddX.1.1) dPos) = some (.ret (.ref 112), Sd (28 + 1) w os, cT, dPos) := run_chunk (by kernel_rfl)
theorem dk29 (w : World) (os : OsState) : segRunT treeTable pw w 11 (some (.ref 6)) 1 1000 (Sd 29 w os) (thrD (forIn (chunk 29) ((mainAt 29, []) : DSt) ddX.1.1) dPos) = some (.ret (.ref 112), Sd (29 + 1) w os, cT, dPos) := run_chunk (by kernel_rfl)
theorem dk30 (w : World) (os : OsState) : segRunT treeTable pw w 11 (some (.ref 6)) 1 1000 (Sd 30 w os) (thrD (forIn (chunk 30) ((mainAt 30, []) : DSt) ddX.1.1) dPos) = some (.ret (.ref 112), Sd (30 + 1) w os, cT, dPos) := run_chunk (by kernel_rfl)
theorem dk31 (w : World) (os : OsState) : segRunT treeTable pw w 11 (some (.ref 6)) 1 1000 (Sd 31 w os) (thrD (forIn (chunk 31) ((mainAt 31, []) : DSt) ddX.1.1) dPos) = some (.ret (.ref 112), Sd (31 + 1) w os, cT, dPos) := run_chunk (by kernel_rfl)
theorem dk32 (w : World) (os : OsState) : segRunT treeTable pw w 11 (some (.ref 6)) 1 1000 (Sd 32 w os) (thrD (forIn (chunk 32) ((mainAt 32, []) : DSt) ddX.1.1) dPos) = some (.ret (.ref 112), Sd (32 + 1) w os, cT, dPos) := run_chunk (by kernel_rfl)
theorem dk33 (w : World) (os : OsState) : segRunT treeTable pw w 11 (some (.ref 6)) 1 1000 (Sd 33 w os) (thrD (forIn (chunk 33) ((mainAt 33, []) : DSt) ddX.1.1) dPos) = some (.ret (.ref 112), Sd (33 + 1) w os, cT, dPos) := run_chunk (by kernel_rfl)
theorem dk34 (w : World) (os : OsState) : segRunT treeTable pw w 11 (some (.ref 6)) 1 1000 (Sd 34 w os) (thrD (forIn (chunk 34) ((mainAt 34, []) : DSt) ddX.1.1) dPos) = some (.ret (.ref 112), Sd (34 + 1) w os, cT, dPos) := run_chunk (by kernel_rfl)
theorem dk35 (w : World) (os : OsState) : segRunT treeTable pw w 11 (some (.ref 6)) 1 1000 (Sd 35 w os) (thrD (forIn (chunk 35) ((mainAt 35, []) : DSt) ddX.1.1) dPos) = some (.ret (.ref 112), Sd (35 + 1) w os, cT, dPos) := run_chunk (by kernel_rfl)
theorem dk36 (w : World) (os : OsState) : segRunT treeTable pw w 11 (some (.ref 6)) 1 1000 (Sd 36 w os) (thrD (forIn (chunk 36) ((mainAt 36, []) : DSt) ddX.1.1) dPos) = some (.ret (.ref 112), Sd (36 + 1) w os, cT, dPos) := run_chunk (by kernel_rfl)
theorem dk37 (w : World) (os : OsState) : segRunT treeTable pw w 11 (some (.ref 6)) 1 1000 (Sd 37 w os) (thrD (forIn (chunk 37) ((mainAt 37, []) : DSt) ddX.1.1) dPos) = some (.ret (.ref 112), Sd (37 + 1) w os, cT, dPos) := run_chunk (by kernel_rfl)
end Mine
end
section
open PySem PySem.W PyProof.Rows
set_option maxRecDepth 1000000
set_option maxHeartbeats 0
namespace Mine
theorem dc (w : World) (os : OsState) {N : Nat} {r : Shared} {K : Flow → Sem PySem.Fin} {H : Value → Sem PySem.Fin}
    (q : topRun treeTable pw w 11 (some (.ref 6)) N (S6 w os).abs ⟨K .next, cT, ⟨73, 0, 73, 13⟩, [topFrame p0]⟩ = some r) :
    topRun treeTable pw w 11 (some (.ref 6)) (39000 + N) (Sd 0 w os).abs ⟨((forIn (itemsAll.drop (17 * 0)) ((mainAt 0, []) : DSt) ddX.1.1 : Sem DSt).bind G15).wrap K H id id, cT, dPos, [topFrame p0]⟩ = some r := by
  have h38 := last_top (H := H) (segRun_of (dl w os)) q
  have h37 := dstep (dk37 w os) h38
  clear h38
  have h36 := dstep (dk36 w os) h37
  clear h37
  have h35 := dstep (dk35 w os) h36
  clear h36
  have h34 := dstep (dk34 w os) h35
  clear h35
  have h33 := dstep (dk33 w os) h34
  clear h34
  have h32 := dstep (dk32 w os) h33
  clear h33
  have h31 := dstep (dk31 w os) h32
  clear h32
  have h30 := dstep (dk30 w os) h31
  clear h31
  have h29 := dstep (dk29 w os) h30
  clear h30
  have h28 := dstep (dk28 w os) h29
  clear h29
  have h27 := dstep (dk27 w os) h28
  clear h28
  have h26 := dstep (dk26 w os) h27
  clear h27
  have h25 := dstep (dk25 w os) h26
  clear h26
  have h24 := dstep (dk24 w os) h25
  clear h25
  have h23 := dstep (dk23 w os) h24
  clear h24
  have h22 := dstep (dk22 w os) h23
  clear h23
  have h21 := dstep (dk21 w os) h22
  clear h22
  have h20 := dstep (dk20 w os) h21
  clear h21
  have h19 := dstep (dk19 w os) h20
  clear h20
  have h18 := dstep (dk18 w os) h19
  clear h19
  have h17 := dstep (dk17 w os) h18
  clear h18
  have h16 := dstep (dk16 w os) h17
  clear h17
  have h15 := dstep (dk15 w os) h16
  clear h16
  have h14 := dstep (dk14 w os) h15
  clear h15
  have h13 := dstep (dk13 w os) h14
  clear h14
  have h12 := dstep (dk12 w os) h13
  clear h13
  have h11 := dstep (dk11 w os) h12
  clear h12
  have h10 := dstep (dk10 w os) h11
  clear h11
  have h9 := dstep (dk9 w os) h10
  clear h10
  have h8 := dstep (dk8 w os) h9
  clear h9
  have h7 := dstep (dk7 w os) h8
  clear h8
  have h6 := dstep (dk6 w os) h7
  clear h7
  have h5 := dstep (dk5 w os) h6
  clear h6
  have h4 := dstep (dk4 w os) h5
  clear h5
  have h3 := dstep (dk3 w os) h4
  clear h4
  have h2 := dstep (dk2 w os) h3
  clear h3
  have h1 := dstep (dk1 w os) h2
  clear h2
  have h0 := dstep (dk0 w os) h1
  clear h1
  have e : 39000 + N = 1000 + (1000 + (1000 + (1000 + (1000 + (1000 + (1000 + (1000 + (1000 + (1000 + (1000 + (1000 + (1000 + (1000 + (1000 + (1000 + (1000 + (1000 + (1000 + (1000 + (1000 + (1000 + (1000 + (1000 + (1000 + (1000 + (1000 + (1000 + (1000 + (1000 + (1000 + (1000 + (1000 + (1000 + (1000 + (1000 + (1000 + (1000 + (1000 + N)))))))))))))))))))))))))))))))))))))) := by omega
  rw [e]; exact h0
theorem runf (w : World) (os : OsState) : topRun treeTable pw (w.withFollow "special-get-raises" false) 11 (some (.ref 6)) 45000 ⟨boot_heap (w.withFollow "special-get-raises" false).params, #[], boot_drawn, boot_toks, os⟩ (topStub pw) = some (S7 (w.withFollow "special-get-raises" false) os).abs := by
  have a7 := piece_nil (env := envT) (fin0 (w.withFollow "special-get-raises" false) os)
  have a6 := piece_app (rest := []) (segRun_of (pc6 (w.withFollow "special-get-raises" false) os)) a7
  clear a7
  have a5 : topRun treeTable pw (w.withFollow "special-get-raises" false) 11 (some (.ref 6)) (2 + (2 + (39000 + (156 + 2)))) (S5 (w.withFollow "special-get-raises" false) os).abs (restOf (stAt 15 :: (sts 16 22 ++ [])) envT cT ⟨71, 0, 72, 30⟩ [topFrame p0]) = some (S7 (w.withFollow "special-get-raises" false) os).abs := by
    unfold restOf
    rw [execs_cons_wrap, exec15]
    refine bind_top (fun _ => .next) .next () (fun _ _ => rfl) (segRun_of (dst (w.withFollow "special-get-raises" false) os _ aPos)) ?_
    refine bind_top (fun _ => .next) .next () (fun _ _ => rfl) (segRun_of (dst (w.withFollow "special-get-raises" false) os _ dPos)) ?_
    exact dc (w.withFollow "special-get-raises" false) os a6
  clear a6
  have a4 := piece_app (segRun_of (pc4 (w.withFollow "special-get-raises" false) os)) a5
  clear a5
  have a3 := piece_app (segRun_of (pc3f w os)) a4
  clear a4
  have a2 := piece_app (segRun_of (pc2 (w.withFollow "special-get-raises" false) os)) a3
  clear a3
  have a1 := piece_app (segRun_of (pc1 (w.withFollow "special-get-raises" false) os)) a2
  clear a2
  have a0 := piece_app (segRun_of (pc0 (w.withFollow "special-get-raises" false) os)) a1
  clear a1
  rw [← body_is] at a0
  have b0 := piece_block (segRun_of (block0 (w.withFollow "special-get-raises" false) os)) a0
  clear a0
  have c0 := go_top (pre0 (w.withFollow "special-get-raises" false) os) b0
  exact topRun_mono' (by decide) c0
theorem runt (w : World) (os : OsState) : topRun treeTable pw (w.withFollow "special-get-raises" true) 11 (some (.ref 6)) 45000 ⟨boot_heap (w.withFollow "special-get-raises" true).params, #[], boot_drawn, boot_toks, os⟩ (topStub pw) = some (S7 (w.withFollow "special-get-raises" true) os).abs := by
  have a7 := piece_nil (env := envT) (fin0 (w.withFollow "special-get-raises" true) os)
  have a6 := piece_app (rest := []) (segRun_of (pc6 (w.withFollow "special-get-raises" true) os)) a7
  clear a7
  have a5 : topRun treeTable pw (w.withFollow "special-get-raises" true) 11 (some (.ref 6)) (2 + (2 + (39000 + (156 + 2)))) (S5 (w.withFollow "special-get-raises" true) os).abs (restOf (stAt 15 :: (sts 16 22 ++ [])) envT cT ⟨71, 0, 72, 30⟩ [topFrame p0]) = some (S7 (w.withFollow "special-get-raises" true) os).abs := by
    unfold restOf
    rw [execs_cons_wrap, exec15]
    refine bind_top (fun _ => .next) .next () (fun _ _ => rfl) (segRun_of (dst (w.withFollow "special-get-raises" true) os _ aPos)) ?_
    refine bind_top (fun _ => .next) .next () (fun _ _ => rfl) (segRun_of (dst (w.withFollow "special-get-raises" true) os _ dPos)) ?_
    exact dc (w.withFollow "special-get-raises" true) os a6
  clear a6
  have a4 := piece_app (segRun_of (pc4 (w.withFollow "special-get-raises" true) os)) a5
  clear a5
  have a3 := piece_app (segRun_of (pc3t w os)) a4
  clear a4
  have a2 := piece_app (segRun_of (pc2 (w.withFollow "special-get-raises" true) os)) a3
  clear a3
  have a1 := piece_app (segRun_of (pc1 (w.withFollow "special-get-raises" true) os)) a2
  clear a2
  have a0 := piece_app (segRun_of (pc0 (w.withFollow "special-get-raises" true) os)) a1
  clear a1
  rw [← body_is] at a0
  have b0 := piece_block (segRun_of (block0 (w.withFollow "special-get-raises" true) os)) a0
  clear a0
  have c0 := go_top (pre0 (w.withFollow "special-get-raises" true) os) b0
  exact topRun_mono' (by decide) c0
theorem run_all (w : World) (os : OsState) : topRun treeTable pw w 11 (some (.ref 6)) 45000 ⟨boot_heap w.params, #[], boot_drawn, boot_toks, os⟩ (topStub pw) = some (S7 w os).abs :=
  byRow2 "special-get-raises" (P := fun w => topRun treeTable pw w 11 (some (.ref 6)) 45000 ⟨boot_heap w.params, #[], boot_drawn, boot_toks, os⟩ (topStub pw) = some (S7 w os).abs) (fun w => runf w os) (fun w => runt w os) w
end Mine
end
section
open PySem PySem.W PyProof.Rows
set_option maxRecDepth 1000000
set_option maxHeartbeats 0
namespace Mine
noncomputable section
noncomputable def qv : Program := { pw with main := { pw.main with body := [stAt 21] } }
noncomputable def lo : List Str := ["_wall", "sep", "_kind", "_fspath", "split", "_ancestry", "filterfalse", "_difference", "b1_set", "in_table_b1", "b3_exceptions", "map_table_b3", "_law_hidden", "_law_sign", "_law_prepared"].map Str.ofString
noncomputable def H7 (P : Params) : Heap := absHeap (T7 P) 182 boot_life
noncomputable abbrev rr : RowW := OpenRow.toRowW (OpenLaw.row PySem.Challenge.rw_ij0113_01)
noncomputable def Xt7 (s : Shared) : Bool := xlAt qv [] s && recOk rr.records s
theorem size7 (w : World) : ((boot_heap w.params).isNs mainGlobals && (#[] : Array GenState).size == 0, (boot_heap w.params).objs.size, (boot_heap w.params).nsMap mainGlobals "__annotations__") = (true, 11, some (.ref 6)) := by kernel_rfl
theorem open7 : opening pw = plainProg pw.main.scope.names := by kernel_rfl
theorem fence7 (s : Shared) : fenceModules? pw s = some s := by kernel_rfl
theorem looksA (w : World) (os : OsState) : (staticsOk (importedModules pw.main.body) (boot_heap w.params) (H7 w.params) && namesBound pw (H7 w.params) && gensDone ⟨H7 w.params, #[], boot_drawn, 2361, os⟩ && laidKept (boot_heap w.params) (H7 w.params)) = true := by kernel_rfl
theorem looksB (w : World) (os : OsState) : openSeen qv lo (importedModules pw.main.body) Xt7 true ⟨H7 w.params, #[], boot_drawn, 2361, os⟩ = openGood qv lo := by
  rw [PySem.W.Fast.te4187177175401517315]
  kernel_rfl
theorem looksC (w : World) : (H7 w.params).get? 101 = some (o101_14 w.params) := by kernel_rfl
end
end Mine
end
section
theorem Mine.begins_KT : True := by
  w_top off
  trivial
open PySem PySem.W PyProof.Rows
set_option maxRecDepth 1000000
set_option maxHeartbeats 0
namespace Mine
noncomputable section
noncomputable def Extra (w : World) (h : Heap) : Prop := h.get? 101 = some (o101_14 w.params) ∧ h.get? 112 = some (oBig w.params)
theorem Extra.keep {w : World} {h h' : Heap} (x : Extra w h) (k : ∀ b o, h.get? b = some o → h'.get? b = some o) : Extra w h' := ⟨k _ _ x.1, k _ _ x.2⟩
theorem Extra.fr {w : World} {h₀ h : Heap} {L : Addr} {m : Str → Option Value} (F : Fr h₀ L h m) (x : Extra w h₀) : Extra w h := x.keep F.keep
noncomputable def hk (K : Params → Frag) (as : List Addr) (e : ∀ P, as = (K P).map (·.1)) : Hook :=
  ⟨List (Option Obj) × Option Obj × Option Obj, fun s => (as.map s.heap.get?, s.heap.get? 101, s.heap.get? 112), fun w => ((K w.params).map (fun p => some p.2), some (o101_14 w.params), some (oBig w.params)),
   fun w h => InK K w h ∧ Extra w h,
   fun w s h => ⟨InK.of e w s (congrArg Prod.fst h), congrArg (fun x => x.2.1) h, congrArg (fun x => x.2.2) h⟩,
   fun w h h' x k => ⟨InK.keeps w h h' x.1 k, x.2.keep k⟩⟩
theorem looksD (w : World) : (H7 w.params).get? 112 = some (oBig w.params) := by kernel_rfl
theorem run_H7 (w : World) (os : OsState) : topRun treeTable pw w 11 (some (.ref 6)) 45000 ⟨boot_heap w.params, #[], boot_drawn, boot_toks, os⟩ (topStub pw) = some ⟨H7 w.params, #[], boot_drawn, 2361, os⟩ := run_all w os
theorem left7 (K : Params → Frag) (as : List Addr) (e : ∀ P, as = (K P).map (·.1)) (hK : ∀ w : World, as.map (H7 w.params).get? = (K w.params).map fun p => some p.2) :
    LeftO rr.prog qv lo Xt7 (hk K as e).obs (hk K as e).val 50000 :=
  LeftO.of_pieces (boot_open open7 (by decide) fence7) size7 run_H7 (by decide) fun w => by
    funext os
    refine Prod.ext (looksA w os) (Prod.ext (looksB w os) ?_)
    exact Prod.ext (hK w) (Prod.ext (looksC w) (looksD w))
end
end Mine
open Mine
local macro_rules | `(tactic| o_head (kHook $k $a $e)) => `(tactic| (
  refine holds_open (q := Mine.qv) (loose := Mine.lo) (Xt := Mine.Xt7) (XP := XL Mine.qv []) (Yf := (Mine.hk $k $a $e).obs) (Ya := (Mine.hk $k $a $e).val) (YP := (Mine.hk $k $a $e).says) (N := 50000)
    (Mine.left7 $k $a $e (fun _ => by kernel_rfl)) (Mine.hk $k $a $e).of (Mine.hk $k $a $e).keeps (fun s e => xl_of s (Bool.and_eq_true_iff.mp e).1) XL.keeps (by rfl) (by rfl) (by rfl) (fun s e => recFacts_of (Bool.and_eq_true_iff.mp e).2) (by rfl) (by first | assumption | decide +kernel) (by decide +kernel) ⟨rfl, rfl, rfl, rfl, rfl, by decide +kernel⟩ ?hw ?hc))
namespace Mine
set_option maxRecDepth 100000 in
open_top hd for PySem.Challenge.rw_ij0113_01
end Mine
end
section
set_option maxHeartbeats 200000
open PySem PySem.W PyProof.Rows
set_option maxRecDepth 100000
namespace Mine
noncomputable abbrev pg : Program := PySem.Challenge.rw_ij0113_01.prog
noncomputable abbrev tup2 (x : Str) (t : Tok) (y : Str) (u : Tok) : Obj := { cls := .type "tuple", data := .seq #[.str x t, .str y u] }
noncomputable abbrev Ext (h h' : Heap) : Prop := ∀ b o, h.get? b = some o → h'.get? b = some o
/-- a def's contract: what it hands back, all that stood before it kept -/
noncomputable abbrev PCl (w : World) (f : Value) (vs : List Value) (d u : Nat) (R : Heap → Heap → Value → Prop) : Prop :=
  ∀ (A : Around) (envs : List Env) (base : Heap) (s : Shared) (Q E : Value → Shared → Prop) (loose : List Str) (mean : ExcName → Option Value) (mg mb : Str → Option Value),
    A.handled = none → Below { A with frames := some envs } base envs s.heap → A.frames = some envs → (hd.heap_39 w.params).In s.heap → Extra w s.heap → Top qv loose mean mg mb s.heap →
    A.depth + d < recursionLimit → A.units + u < cLine →
    (∀ v h' tk', Ext s.heap h' → R s.heap h' v → Q v { s with heap := h', toks := tk' }) →
    wpAny (model pg w) A (call f vs) Q E s
noncomputable abbrev RV (F : Tok → Value) (_ _ : Heap) (v : Value) : Prop := ∃ t, v = F t
noncomputable abbrev RT (P : Str → Str → Prop) (h h' : Heap) (v : Value) : Prop := ∃ D x y t u, v = .ref D ∧ P x y ∧ h'.get? D = some (tup2 x t y u) ∧ h.get? D = none
noncomputable def LeaveP (g : Heap) (Q : Value → Shared → Prop) (v : Value) (s' : Shared) : Prop := ∃ L' m', Fr g L' s'.heap m' ∧ (Ext g s'.heap → Q v s')
section
variable {prog : Program} {w : World} {A : Around} {E : Value → Shared → Prop} {s : Shared} {K : Frag} {base : Heap} {envs : List Env} {p : Program} {loose : List Str} {mean : ExcName → Option Value} {mg mb : Str → Option Value} {Q : Value → Shared → Prop}
theorem pure_def {name qual : Str} {params : Arguments} {body : List Stmt} {scope : Scope} {dV kV doc pm cdv ct oc : Value} {an od : Option Addr} {osl : Array (Option Value)} {f : Addr} {pos : List Value} {binds : List (Str × Value)}
    (X : K.In s.heap) (T : Top p loose mean mg mb s.heap)
    (ho : K.lookup f = some ⟨oc, od, .func (fnOf name qual params body scope dV kV doc pm an cdv ct), osl⟩) (hcd : codeIn K cdv qual = true) (hroom : A.depth < recursionLimit)
    (hbind : BindsTo s (fnOf name qual params body scope dV kV doc pm an cdv ct) ⟨pos, []⟩ binds) (hloc : ∀ y ∈ binds, scope.names.lookup y.1 = some .local)
    (h : ∀ L' h₁, Fr s.heap L' h₁ (fun y => binds.reverse.lookup y) → News s.heap L' h₁ [] →
      wpAny (model prog w) (A.deeper (envOf qual scope L' f cdv)) (execs body (envOf qual scope L' f cdv))
        (fun fl s' => LeaveP s.heap Q (match fl with | .ret v => v | _ => .none) s')
        (fun e s' => wpAny (model prog w) (A.deeper (envOf qual scope L' f cdv)) (leaving (envOf qual scope L' f cdv) e) (fun _ s'' => E e s'') (fun e' s'' => E e' s'') s')
        { s with heap := h₁, toks := s.toks + binds.length })
    (hco : scope.isCoroutine = false) (hgen : scope.isGenerator = false) (hk : scope.kind = .function)
    (hcell : ∀ x ∈ scope.names, x.2 ≠ .cell) : wpAny (model prog w) A (call (.ref f) pos) Q E s := by
  refine wpAny_call ?_
  refine codeAny_call_def (fd := fnOf name qual params body scope dV kV doc pm an cdv ct) (body := body) (binds := binds) hroom (X _ _ ho) rfl T.nolimit (codeRec_of X hcd) rfl hbind hcell hloc (fun h₁ hns hk₁ => ?_) hco hgen hk
  refine wpAny_mono (h s.heap.objs.size h₁ ⟨hns, hk₁, Nat.le_refl _⟩ News.nil) (fun fl s' hl => ?_) fun _ _ y => y
  obtain ⟨L', m', F', k⟩ := hl
  exact k F'.keep
end
theorem PCl.use {w : World} {f : Value} {vs : List Value} {d u : Nat} {R : Heap → Heap → Value → Prop} (C : PCl w f vs d u R)
    {A A₀ : Around} {env : Env} {outer : List Env} {base h₀ : Heap} {L : Addr} {m : Str → Option Value} {s : Shared} {Q E : Value → Shared → Prop}
    {loose : List Str} {mean : ExcName → Option Value} {mg mb : Str → Option Value} {news : List (Addr × Obj)}
    (B : Below A₀ base outer h₀) (F : Fr h₀ L s.heap m) (X : (hd.heap_39 w.params).In h₀) (S1 : Extra w h₀) (N : News h₀ L s.heap news) (T : Top qv loose mean mg mb h₀)
    (hh : A.handled = none) (hA : A.frames = some (env :: outer)) (hf : env.frame = some L) (hk : env.scope.kind = .function)
    (hd : A.depth + d < recursionLimit) (hu : A.units + u < cLine)
    (ret : ∀ v h' tk', Fr h₀ L h' m → News h₀ L h' news → Ext s.heap h' → R s.heap h' v → Q v { s with heap := h', toks := tk' }) :
    wpAny (model pg w) A (call f vs) Q E s := by
  have B₁ := pushX B F hf hk
  refine C A (env :: outer) base s Q E loose mean mg mb hh ⟨rfl, B₁.stays, B₁.frames⟩ hA (X.keeps F.keep) (S1.fr F) (T.keeps F.keep) hd hu fun v h' tk' k r => ?_
  exact ret v h' tk' ⟨F.ns.at' fun o e => k _ o e, fun b o e => k b o (F.keep b o e), F.above⟩ (fun p hp => ⟨k _ _ (N p hp).1, (N p hp).2⟩) k r
/-- the same where a value comes back -/
theorem PCl.useV {w : World} {f : Value} {vs : List Value} {d u : Nat} {G : Tok → Value} (C : PCl w f vs d u (RV G))
    {A A₀ : Around} {env : Env} {outer : List Env} {base h₀ : Heap} {L : Addr} {m : Str → Option Value} {s : Shared} {Q E : Value → Shared → Prop}
    {loose : List Str} {mean : ExcName → Option Value} {mg mb : Str → Option Value} {news : List (Addr × Obj)}
    (B : Below A₀ base outer h₀) (F : Fr h₀ L s.heap m) (X : (hd.heap_39 w.params).In h₀) (S1 : Extra w h₀) (N : News h₀ L s.heap news) (T : Top qv loose mean mg mb h₀)
    (hh : A.handled = none) (hA : A.frames = some (env :: outer)) (hf : env.frame = some L) (hk : env.scope.kind = .function)
    (hd : A.depth + d < recursionLimit) (hu : A.units + u < cLine)
    (ret : ∀ t h' tk', Fr h₀ L h' m → News h₀ L h' news → Q (G t) { s with heap := h', toks := tk' }) :
    wpAny (model pg w) A (call f vs) Q E s :=
  C.use B F X S1 N T hh hA hf hk hd hu fun v h' tk' F' N' _ r => by obtain ⟨t, rfl⟩ := r; exact ret t h' tk' F' N'
noncomputable def AllNe (d : Addr) : List (Addr × Obj) → Prop
  | [] => True
  | p :: r => @Ne Nat p.1 d ∧ AllNe d r
theorem allNe_of {d : Addr} : ∀ {l : List (Addr × Obj)}, (∀ p ∈ l, p.1 ≠ d) → AllNe d l
  | [], _ => trivial
  | p :: _, h => ⟨h p (.head _), allNe_of fun q hq => h q (.tail _ hq)⟩
theorem PCl.useT {w : World} {f : Value} {vs : List Value} {d u : Nat} {P : Str → Str → Prop} (C : PCl w f vs d u (RT P))
    {A A₀ : Around} {env : Env} {outer : List Env} {base h₀ : Heap} {L : Addr} {m : Str → Option Value} {s : Shared} {Q E : Value → Shared → Prop}
    {loose : List Str} {mean : ExcName → Option Value} {mg mb : Str → Option Value} {news : List (Addr × Obj)}
    (B : Below A₀ base outer h₀) (F : Fr h₀ L s.heap m) (X : (hd.heap_39 w.params).In h₀) (S1 : Extra w h₀) (N : News h₀ L s.heap news) (T : Top qv loose mean mg mb h₀)
    (hh : A.handled = none) (hA : A.frames = some (env :: outer)) (hf : env.frame = some L) (hk : env.scope.kind = .function)
    (hd : A.depth + d < recursionLimit) (hu : A.units + u < cLine)
    (ret : ∀ D x y t u h' tk', P x y → Fr h₀ L h' m → News h₀ L h' ((D, tup2 x t y u) :: news) → AllNe D news → Q (.ref D) { s with heap := h', toks := tk' }) :
    wpAny (model pg w) A (call f vs) Q E s :=
  C.use B F X S1 N T hh hA hf hk hd hu fun v h' tk' F' N' k r => by
    obtain ⟨D, x, y, t, u, rfl, hP, hD, hn⟩ := r
    refine ret D x y t u h' tk' hP F' (fun p hp => ?_) (allNe_of fun p hp e => ?_)
    · rcases List.mem_cons.mp hp with rfl | hp
      · refine ⟨hD, ?_, ?_⟩
        · rintro rfl
          obtain ⟨o, _, _, ho, _⟩ := F.ns
          rw [show s.heap.get? D = none from hn] at ho; cases ho
        · cases e : h₀.get? D with
          | none => rfl
          | some o => have := F.keep _ _ e; rw [hn] at this; cases this
      · exact N' p hp
    · have := (N p hp).1
      rw [e, hn] at this; cases this
end Mine
end
section
theorem Mine.begins_W1 : True := by
  w_top off
  trivial
local macro_rules | `(tactic| walk_at "none") => `(tactic| fail)
open PySem PySem.W PyProof.Rows
set_option maxRecDepth 100000
set_option maxHeartbeats 4000000
namespace Mine
local macro_rules | `(tactic| cell_enter) => `(tactic| (refine' pure_def ?k3 ?k5 ?k6 ?k7 ?k8 ?k9 ?kB ?_ ?c2 ?c3 ?c4 ?c5; (case k3 => k_asm); (case k5 => k_asm); (case k6 => k_is); (case k7 => k_is); (case k8 => ktr_room); (case k9 => exact BindsTo.of_eq rfl); (case c5 => decide); (case kB => exact locs rfl); (case c2 => exact rfl); (case c3 => exact rfl); (case c4 => exact rfl); k_whole; intro L' h' F' N'; (try dsimp only); (try k_fold)))
theorem c_kind (w : World) (n x : Str) (tn tx : Tok) : PCl w (.ref 28) [.str n tn, .str x tx] 2 12 (RV fun t => .str (Str.ofString "") t) := by
  unfold PCl pg
  k_fill
  
  intro A envs base s Q E loose mean mg mb hh B hA X S1 T hdp hun hret
  obtain ⟨ha, dp, fr, gd, un⟩ := A
  obtain rfl : ha = none := hh
  obtain rfl : fr = some envs := hA
  dsimp only at hdp hun B
  k_dflt cell_enter
  k_steps
  all_goals exact ⟨_, _, by k_asm, fun k => hret _ _ _ k ⟨_, rfl⟩⟩
local macro_rules | `(tactic| walk_at "call ref") => `(tactic| (k_here; (with_reducible show wpAny _ _ (call (Value.ref 28) _) _ _ _); k_dflt (refine' PCl.useV (c_kind _ _ _ _ _) ?k1 ?k2 ?k3 ?k4 ?k5 ?k6 ?k7 ?k8 ?k9 ?k10 ?k11 ?k12 ?_; (case k1 => k_asm); (case k2 => k_asm); (case k3 => k_asm); (case k4 => first | assumption | exact Extra.fr (by assumption) (by assumption)); (case k5 => k_asm); (case k6 => k_asm); (case k7 => exact rfl); (case k8 => exact rfl); (case k9 => exact rfl); (case k10 => first | exact rfl | assumption); (case k11 => ktr_room); (case k12 => ktr_units)); intro t9 h9 tk9 F9 N9; (try dsimp only); (try k_fold)))
theorem c_fspath (w : World) (n x : Str) (tn tx : Tok) : PCl w (.ref 35) [.str n tn, .str x tx] 3 20 (RV fun _ => .str x tx) := by
  unfold PCl pg
  k_fill
  
  intro A envs base s Q E loose mean mg mb hh B hA X S1 T hdp hun hret
  obtain ⟨ha, dp, fr, gd, un⟩ := A
  obtain rfl : ha = none := hh
  obtain rfl : fr = some envs := hA
  dsimp only at hdp hun B
  k_dflt cell_enter
  k_steps
  all_goals exact ⟨_, _, by k_asm, fun k => hret _ _ _ k ⟨0, rfl⟩⟩
local macro_rules | `(tactic| walk_at "call ref") => `(tactic| (k_here; (with_reducible show wpAny _ _ (call (Value.ref 35) _) _ _ _); k_dflt (refine' PCl.useV (c_fspath _ _ _ _ _) ?k1 ?k2 ?k3 ?k4 ?k5 ?k6 ?k7 ?k8 ?k9 ?k10 ?k11 ?k12 ?_; (case k1 => k_asm); (case k2 => k_asm); (case k3 => k_asm); (case k4 => first | assumption | exact Extra.fr (by assumption) (by assumption)); (case k5 => k_asm); (case k6 => k_asm); (case k7 => exact rfl); (case k8 => exact rfl); (case k9 => exact rfl); (case k10 => first | exact rfl | assumption); (case k11 => ktr_room); (case k12 => ktr_units)); intro t9 h9 tk9 F9 N9; (try dsimp only); (try k_fold)))
/-- what split gives back -/
noncomputable def splitF (x : Str) : Str × Str :=
  let hd := Txt.slice x none (some (Txt.rfind x (Str.ofString "/") + 1))
  let tl := Txt.slice x (some (Txt.rfind x (Str.ofString "/") + 1)) none
  if hd.length = 0 then (hd, tl) else if hd = Txt.mul (Str.ofString "/") hd.length then (hd, tl) else (Txt.rstripChars hd (Str.ofString "/"), tl)
theorem splitF_a {x : Str} (h : ((Txt.slice x none (some (Txt.rfind x (Str.ofString "/") + 1))).length : Int) ≠ 0)
    (h2 : (Txt.slice x none (some (Txt.rfind x (Str.ofString "/") + 1)) != Txt.mul (Str.ofString "/") ((Txt.slice x none (some (Txt.rfind x (Str.ofString "/") + 1))).length : Int)) = true) :
    splitF x = (Txt.rstripChars (Txt.slice x none (some (Txt.rfind x (Str.ofString "/") + 1))) (Str.ofString "/"), Txt.slice x (some (Txt.rfind x (Str.ofString "/") + 1)) none) := by
  unfold splitF
  dsimp only
  rw [if_neg (by omega), if_neg (by simpa using h2)]
theorem splitF_b {x : Str} (h : ((Txt.slice x none (some (Txt.rfind x (Str.ofString "/") + 1))).length : Int) ≠ 0)
    (h2 : (Txt.slice x none (some (Txt.rfind x (Str.ofString "/") + 1)) != Txt.mul (Str.ofString "/") ((Txt.slice x none (some (Txt.rfind x (Str.ofString "/") + 1))).length : Int)) = false) :
    splitF x = (Txt.slice x none (some (Txt.rfind x (Str.ofString "/") + 1)), Txt.slice x (some (Txt.rfind x (Str.ofString "/") + 1)) none) := by
  unfold splitF
  dsimp only
  rw [if_neg (by omega), if_pos (by simpa using h2)]
theorem splitF_c {x : Str} (h : ((Txt.slice x none (some (Txt.rfind x (Str.ofString "/") + 1))).length : Int) = 0) :
    splitF x = (Txt.slice x none (some (Txt.rfind x (Str.ofString "/") + 1)), Txt.slice x (some (Txt.rfind x (Str.ofString "/") + 1)) none) := by
  unfold splitF
  dsimp only
  rw [if_pos (by omega)]
theorem c_split (w : World) (x : Str) (tx : Tok) (hx : x.length ≤ 4096) : PCl w (.ref 42) [.str x tx] 4 28 (RT fun a b => splitF x = (a, b)) := by
  unfold PCl pg
  k_fill
  
  intro A envs base s Q E loose mean mg mb hh B hA X S1 T hdp hun hret
  obtain ⟨ha, dp, fr, gd, un⟩ := A
  obtain rfl : ha = none := hh
  obtain rfl : fr = some envs := hA
  dsimp only at hdp hun B
  k_dflt cell_enter
  k_steps
  all_goals (try dsimp only)
  all_goals (rename News _ _ _ _ => kN; refine ⟨_, _, by k_asm, fun k => hret _ _ _ k ⟨_, _, _, _, _, rfl, by first | exact splitF_a (by assumption) (by assumption) | exact splitF_b (by assumption) (by assumption) | exact splitF_c (by assumption), (kN _ (.head _)).1, (kN _ (.head _)).2.2⟩⟩)
end Mine
end
section
theorem Mine.begins_W2 : True := by
  w_top off
  trivial
open PySem PySem.W PyProof.Rows
set_option maxRecDepth 100000
set_option maxHeartbeats 4000000
namespace Mine
noncomputable def ch (c : Nat) : Str := ⟨#[c]⟩
noncomputable def b1L : List (Int × Value) := [(65024, Value.int 65024 317), (65025, Value.int 65025 318), (65026, Value.int 65026 319), (65027, Value.int 65027 320), (65028, Value.int 65028 321), (65029, Value.int 65029 322), (6150, Value.int 6150 303), (65030, Value.int 65030 323), (65031, Value.int 65031 324), (65032, Value.int 65032 325), (65033, Value.int 65033 326), (6155, Value.int 6155 304), (6156, Value.int 6156 305), (6157, Value.int 6157 306), (8203, Value.int 8203 307), (8204, Value.int 8204 308), (8205, Value.int 8205 309), (65034, Value.int 65034 327), (65035, Value.int 65035 328), (65036, Value.int 65036 329), (65037, Value.int 65037 330), (65038, Value.int 65038 331), (65039, Value.int 65039 332), (173, Value.int 173 301), (847, Value.int 847 302), (8288, Value.int 8288 310), (65279, Value.int 65279 311)]
noncomputable def b1 (k : Int) : Bool := b1L.any fun e => e.1 == k
theorem o101_is (P : Params) : (o101_14 P).data = .set b1L.toArray 29 (SetTable.mk 127 #[0, 1, 2, 3, 4, 5, 6, 7, 8, 9, 10, 11, 12, 13, 14, 15, 16, 17, 18, 19, 20, 21, 22, 45, 79, 96, 127] #[] 0 (!P.followText "set-order") 2 true) := by kernel_rfl
theorem b1_good : b1L.all (fun e => match e.2 with | .int k _ => k == e.1 | _ => false) = true := by decide +kernel
theorem set101 {prog : Program} {w w' : World} {h : Heap} (S1 : h.get? 101 = some (o101_14 w'.params)) : h.SetOf (intKind prog w) 101 b1 27 := by
  refine ⟨_, b1L.toArray, 29, _, S1, ⟨rfl, rfl, rfl⟩, o101_is _, ?_, ?_, by decide, rfl, rfl⟩
  · intro e he
    have he : e ∈ b1L := by simpa using he
    have := List.all_eq_true.mp b1_good e he
    obtain ⟨i, v⟩ := e
    cases v with
    | int k t => exact ⟨⟨k, intKind_is _ _ _ _, by have : k = i := by simpa using this
                                                   subst this
                                                   have hs : ∀ e ∈ b1L, (intKind prog w).hash e.1 = e.1 := by
                                                     have : b1L.all (fun e => (intKind prog w).hash e.1 == e.1) = true := by kernel_rfl
                                                     intro e he; simpa using List.all_eq_true.mp this e he
                                                   exact (hs _ he).symm⟩, rfl⟩
    | _ => simp at this
  · intro k
    unfold b1
    rw [List.any_eq_true]
    constructor
    · rintro ⟨e, he, hk⟩
      refine ⟨e, by simpa using he, ?_⟩
      have := List.all_eq_true.mp b1_good e he
      obtain ⟨i, v⟩ := e
      cases v with
      | int k' t =>
        have e1 : k' = i := by simpa using this
        have e2 : i = k := by simpa using hk
        subst e1 e2
        exact intKind_is _ _ _ _
      | _ => simp at this
    · rintro ⟨e, he, hk⟩
      have he : e ∈ b1L := by simpa using he
      refine ⟨e, he, ?_⟩
      have := List.all_eq_true.mp b1_good e he
      obtain ⟨i, v⟩ := e
      cases v with
      | int k' t =>
        have e1 : k' = i := by simpa using this
        subst e1
        obtain ⟨t', e⟩ := Value.isInt_shape (show Value.isInt k (Value.int k' t) = true from hk)
        cases e
        simp
      | _ => simp at this
theorem in101 {prog : Program} {w w' : World} {A : Around} {E : Value → Shared → Prop} {s : Shared} {h₀ : Heap} {L : Addr} {m : Str → Option Value} {k : Int} {t : Tok} {Q : Value → Shared → Prop}
    (S1 : Extra w' h₀) (F : Fr h₀ L s.heap m) (h : Q (.bool (b1 k)) { s with toks := s.toks + 1 }) :
    wpAny (model prog w) A (compareOp .In (.int k t) (.ref 101)) Q E s :=
  wpAny_inSet_of (knd := intKind prog w) (intKind_is _ _ _ _) rfl (set101 (F.keep _ _ S1.1)) h
local macro_rules | `(tactic| walk_at "compareOp In int ref") => `(tactic| (k_here; k_dflt (refine' in101 ?k1 ?k2 ?_; (case k2 => k_asm); (case k1 => first | assumption | exact Extra.fr (by assumption) (by assumption)); k_whole)))
local macro_rules | `(tactic| cell_enter) => `(tactic| (refine' pure_def ?k3 ?k5 ?k6 ?k7 ?k8 ?k9 ?kB ?_ ?c2 ?c3 ?c4 ?c5; (case k3 => k_asm); (case k5 => k_asm); (case k6 => k_is); (case k7 => k_is); (case k8 => ktr_room); (case k9 => exact BindsTo.of_eq rfl); (case c5 => decide); (case kB => exact locs rfl); (case c2 => exact rfl); (case c3 => exact rfl); (case c4 => exact rfl); k_whole; intro L' h' F' N'; (try dsimp only); (try k_fold)))
theorem c_inb1 (w : World) (c : Nat) (t : Tok) : PCl w (.ref 111) [.str (ch c) t] 4 28 (RV fun _ => .bool (b1 c)) := by
  unfold PCl pg
  k_fill
  unfold ch
  intro A envs base s Q E loose mean mg mb hh B hA X S1 T hdp hun hret
  obtain ⟨ha, dp, fr, gd, un⟩ := A
  obtain rfl : ha = none := hh
  obtain rfl : fr = some envs := hA
  dsimp only at hdp hun B
  k_dflt cell_enter
  k_steps
  all_goals exact ⟨_, _, by k_asm, fun k => hret _ _ _ k ⟨0, rfl⟩⟩
/-- the table b3 -/
noncomputable def b3L : List (Int × Str) := bigEs.map fun e => match e.key, e.val with | .int k _, .str s _ => (k, s) | _, _ => (0, ⟨#[]⟩)
noncomputable def b3D : List (PyData × PyData) := b3L.map fun p => (.int p.1, .str p.2)
noncomputable def b3V : List (Int × Value) := bigEs.map fun e => (match e.key with | .int k _ => k | _ => 0, e.val)
noncomputable def rising : List Int → Bool
  | a :: b :: r => decide (a < b) && rising (b :: r)
  | _ => true
theorem rising_lt : ∀ {l : List Int} {a : Int}, rising (a :: l) = true → ∀ x ∈ l, a < x
  | [], _, _, _, h => nomatch h
  | b :: r, a, h, x, hx => by
    obtain ⟨h1, h2⟩ := Bool.and_eq_true_iff.mp h
    have h1 : a < b := of_decide_eq_true h1
    rcases List.mem_cons.mp hx with rfl | hx
    · exact h1
    · have := rising_lt h2 x hx; omega
theorem rising_nodup : ∀ {l : List Int}, rising l = true → l.Nodup
  | [], _ => List.nodup_nil
  | [a], _ => by simp
  | a :: b :: r, h => by
    obtain ⟨h1, h2⟩ := Bool.and_eq_true_iff.mp h
    refine List.nodup_cons.mpr ⟨fun hm => ?_, rising_nodup h2⟩
    have := rising_lt h a hm
    omega
end Mine
end
section
theorem Mine.begins_W3 : True := by
  w_top off
  trivial
open PySem PySem.W PyProof.Rows
set_option maxRecDepth 100000
set_option maxHeartbeats 4000000
namespace Mine
noncomputable def goodE (e : DictEntry) : Bool := match e.key, e.val with
  | .int k _, .str _ _ => e.hash == k && hashInt k == k
  | _, _ => false
theorem big_good : bigEs.all goodE = true := by decide +kernel
theorem big_rise : rising (b3L.map (·.1)) = true := by decide +kernel
noncomputable def kOf (e : DictEntry) : Int := match e.key with | .int k _ => k | _ => 0
noncomputable def sOf (e : DictEntry) : Str := match e.val with | .str s _ => s | _ => ⟨#[]⟩
theorem good_shape {e : DictEntry} (h : goodE e = true) : ∃ t u, e = ⟨kOf e, .int (kOf e) t, .str (sOf e) u⟩ ∧ hashInt (kOf e) = kOf e := by
  obtain ⟨hs, k, v⟩ := e
  unfold goodE at h
  cases k <;> try (simp at h; done)
  cases v <;> try (simp at h; done)
  rename_i k t s u
  simp only [Bool.and_eq_true, beq_iff_eq] at h
  obtain ⟨h1, h2⟩ := h
  subst h1
  exact ⟨t, u, rfl, h2⟩
theorem pairs_of {prog : Program} {w : World} : ∀ {l : List DictEntry}, l.all goodE = true → Pairs (intKind prog w) l (l.map fun e => (kOf e, e.val))
  | [], _ => .nil
  | e :: l, h => by
    obtain ⟨h1, h2⟩ := Bool.and_eq_true_iff.mp (by simpa using h : (goodE e && l.all goodE) = true)
    obtain ⟨t, u, he, _⟩ := good_shape h1
    refine .cons ?_ rfl (pairs_of h2)
    rw [he]; exact intKind_is _ _ _ _
theorem flats_of : ∀ {l : List DictEntry}, l.all goodE = true → PyProof.V.FlatPairs PyData.int (l.map fun e => (kOf e, e.val)) (l.map fun e => (PyData.int (kOf e), PyData.str (sOf e)))
  | [], _ => .nil
  | e :: l, h => by
    obtain ⟨h1, h2⟩ := Bool.and_eq_true_iff.mp (by simpa using h : (goodE e && l.all goodE) = true)
    obtain ⟨t, u, he, _⟩ := good_shape h1
    refine .cons ?_ (flats_of h2)
    rw [show e.val = .str (sOf e) u from by rw [he]; rfl]
    exact PyProof.V.Flat.str _ _
theorem keysOf {prog : Program} {w : World} {l : List DictEntry} (h : l.all goodE = true) : KeysOf (intKind prog w) l.toArray := fun e he => by
  obtain ⟨t, u, hs, hh⟩ := good_shape (List.all_eq_true.mp h e (by simpa using he))
  rw [hs]
  exact ⟨kOf e, intKind_is _ _ _ _, hh.symm⟩
theorem b3L_is : b3L.map (·.1) = bigEs.map kOf := by
  unfold b3L
  rw [List.map_map]
  refine List.map_congr_left fun e he => ?_
  obtain ⟨t, u, hs, _⟩ := good_shape (List.all_eq_true.mp big_good e he)
  rw [hs]; rfl
theorem tab112 {prog : Program} {w : World} {w' : World} {h : Heap} (S : Extra w' h) : PyProof.Rows.IntTab prog w h 112 (bigEs.map fun e => (PyData.int (kOf e), PyData.str (sOf e))) := by
  refine ⟨by decide, bigEs.map fun e => (kOf e, e.val), ⟨_, bigEs.toArray, 650, S.2, ⟨rfl, rfl, rfl⟩, rfl, keysOf big_good, ?_, ?_⟩, flats_of big_good⟩
  · exact pairs_of big_good
  · rw [List.map_map]
    have := rising_nodup (b3L_is ▸ big_rise)
    exact this
/-- the table's word for a sign -/
noncomputable def b3f (k : Int) : Option Str := (bigEs.find? fun e => kOf e == k).map sOf
theorem lookup_b3 (i : Int) : PySem.Spec.lookup (.int i) (bigEs.map fun e => (PyData.int (kOf e), PyData.str (sOf e))) = (b3f i).map PyData.str := by
  unfold b3f
  generalize bigEs = l
  induction l with
  | nil => rfl
  | cons e l ih =>
    rw [List.map_cons, List.find?_cons]
    unfold PySem.Spec.lookup
    have hs : PySem.Spec.same (.int (kOf e)) (.int i) = (kOf e == i) := by
      rw [Bool.eq_iff_iff, beq_iff_eq]
      exact ⟨fun h => by simpa [PySem.Spec.same] using h, fun h => by simp [PySem.Spec.same, h]⟩
    rw [hs]
    cases hb : kOf e == i with
    | true => rfl
    | false => exact ih
theorem get112 {prog : Program} {w w' : World} {A : Around} {E : Value → Shared → Prop} {s : Shared} {h₀ : Heap} {L : Addr} {m : Str → Option Value} {i : Int} {t : Tok} {Q : Value → Shared → Prop}
    (S1 : Extra w' h₀) (F : Fr h₀ L s.heap m) (h1 : b3f i = none → Q .none { s with toks := s.toks + 1 }) (h2 : ∀ x u, b3f i = some x → Q (.str x u) { s with toks := s.toks + 1 }) :
    wpAny (model prog w) A (call (.builtin "dict.get") [.ref 112, .int i t]) Q E s := by
  refine call_get1_intTab (tab112 (S1.fr F)) fun v hv => ?_
  rw [lookup_b3] at hv
  cases hb : b3f i with
  | none => rw [hb] at hv; rw [PyProof.V.Flat.none_inv hv]; exact h1 hb
  | some x => rw [hb] at hv; obtain ⟨u, rfl⟩ := PyProof.V.Flat.str_inv hv; exact h2 x u hb
theorem meth112 {prog : Program} {w w' : World} {A : Around} {E : Value → Shared → Prop} {s : Shared} {h₀ : Heap} {L : Addr} {m : Str → Option Value} {pl : Sem Bool} {Q : Value × List Value → Shared → Prop}
    (S1 : Extra w' h₀) (F : Fr h₀ L s.heap m) (h : Q (.builtin "dict.get", [.ref 112]) s) : wpAny (model prog w) A (getMethod (.ref 112) "get" pl) Q E s :=
  getMethod_intTab_get (tab112 (S1.fr F)) h
/-- what map_table_b3 gives for a sign -/
noncomputable def mapb3 (c : Nat) : Str := (b3f c).getD (Txt.lower (ch c))
local macro_rules | `(tactic| walk_at "getMethod ref") => `(tactic| (k_here; (with_reducible show wpAny _ _ (getMethod (Value.ref 112) _ _) _ _ _); k_dflt (refine' meth112 ?k1 ?k2 ?_; (case k2 => k_asm); (case k1 => first | assumption | exact Extra.fr (by assumption) (by assumption)); k_whole)))
local macro_rules | `(tactic| walk_at "call builtin:dict.get") => `(tactic| (k_here; (with_reducible show wpAny _ _ (call (Value.builtin "dict.get") [Value.ref 112, Value.int _ _]) _ _ _); k_dflt (refine' get112 ?k1 ?k2 ?_ ?_; (case k2 => k_asm); (case k1 => first | assumption | exact Extra.fr (by assumption) (by assumption))) <;> intros))
local macro_rules | `(tactic| walk_at "call builtin:str.lower") => `(tactic| (k_here; (with_reducible show wpAny _ _ (call (Value.builtin "str.lower") [Value.str _ _]) _ _ _); (refine SCL.lower (by show (1 : Nat) ≤ _; decide) ?_); intro _))
local macro_rules | `(tactic| cell_enter) => `(tactic| (refine' pure_def ?k3 ?k5 ?k6 ?k7 ?k8 ?k9 ?kB ?_ ?c2 ?c3 ?c4 ?c5; (case k3 => k_asm); (case k5 => k_asm); (case k6 => k_is); (case k7 => k_is); (case k8 => ktr_room); (case k9 => exact BindsTo.of_eq rfl); (case c5 => decide); (case kB => exact locs rfl); (case c2 => exact rfl); (case c3 => exact rfl); (case c4 => exact rfl); k_whole; intro L' h' F' N'; (try dsimp only); (try k_fold)))
theorem c_mapb3 (w : World) (c : Nat) (t : Tok) : PCl w (.ref 157) [.str (ch c) t] 4 28 (RV fun t => .str (mapb3 c) t) := by
  unfold PCl pg
  k_fill
  unfold ch
  intro A envs base s Q E loose mean mg mb hh B hA X S1 T hdp hun hret
  obtain ⟨ha, dp, fr, gd, un⟩ := A
  obtain rfl : ha = none := hh
  obtain rfl : fr = some envs := hA
  dsimp only at hdp hun B
  k_dflt cell_enter
  k_steps
  all_goals (rename b3f _ = _ => hb; exact ⟨_, _, by k_asm, fun k => hret _ _ _ k ⟨_, by unfold mapb3; rw [hb]; rfl⟩⟩)
end Mine
end
section
theorem Mine.begins_W5 : True := by
  w_top off
  trivial
open PySem PySem.W PyProof.Rows
set_option maxRecDepth 100000
set_option maxHeartbeats 1000000
namespace Mine
theorem PCl.useK {w : World} {f : Value} {vs : List Value} {d u : Nat} {G : Tok → Value} (C : PCl w f vs d u (RV G))
    {A A₀ : Around} {env : Env} {outer : List Env} {base h₀ : Heap} {L : Addr} {m : Str → Option Value} {s : Shared} {Q E : Value → Shared → Prop}
    {loose : List Str} {mean : ExcName → Option Value} {mg mb : Str → Option Value}
    (B : Below A₀ base outer h₀) (F : Fr h₀ L s.heap m) (X : (hd.heap_39 w.params).In h₀) (S1 : Extra w h₀) (T : Top qv loose mean mg mb h₀)
    (hh : A.handled = none) (hA : A.frames = some (env :: outer)) (hf : env.frame = some L) (hk : env.scope.kind = .function)
    (hd : A.depth + d < recursionLimit) (hu : A.units + u < cLine)
    (ret : ∀ t h' tk', Fr h₀ L h' m → Ext s.heap h' → Q (G t) { s with heap := h', toks := tk' }) :
    wpAny (model pg w) A (call f vs) Q E s :=
  C.use B F X S1 (news := []) News.nil T hh hA hf hk hd hu fun v h' tk' F' _ k r => by obtain ⟨t, rfl⟩ := r; exact ret t h' tk' F' k
/-- what the def's frame gives an expression of a comprehension's block -/
structure InB (w : World) (A A₀ : Around) (base h₀ : Heap) (L : Addr) (m : Str → Option Value) (env : Env) (outer : List Env) (loose : List Str) (mean : ExcName → Option Value) (mg mb : Str → Option Value) (d u : Nat) : Prop where
  B : Below A₀ base outer h₀
  X : (hd.heap_39 w.params).In h₀
  S1 : Extra w h₀
  T : Top qv loose mean mg mb h₀
  hh : A.handled = none
  hA : A.frames = some (env :: outer)
  hf : env.frame = some L
  hk : env.scope.kind = .function
  hd : A.depth + d < recursionLimit
  hu : A.units + u < cLine
noncomputable def prepScope : Scope := { kind := ScopeKind.function, names := [(Str.ofString ".0", NameKind.local), (Str.ofString "sign", NameKind.local), (Str.ofString "in_table_b1", NameKind.globalImplicit), (Str.ofString "map_table_b3", NameKind.globalImplicit)], isGenerator := false, isCoroutine := false }
section
variable {w : World} {A A₀ : Around} {base h₀ : Heap} {L : Addr} {m : Str → Option Value} {env : Env} {outer : List Env} {loose : List Str} {mean : ExcName → Option Value} {mg mb : Str → Option Value} {C : Addr} {c : Nat} {t : Tok} {s : Shared} {m₃ : Str → Option Value} {E : Value → Shared → Prop} {p1 p2 p3 p4 : Pos}
theorem el_test (I : InB w A A₀ base h₀ L m env outer loose mean mg mb 4 28) (F : Fr h₀ L s.heap m) (hn : s.heap.Ns C m₃) (hm : m₃ (Str.ofString "sign") = some (.str (ch c) t)) (hg : env.globals = mainGlobals) :
    wpAny (model pg w) A (isTrue (.UnaryOp .Not (.Call (.Name (Str.ofString "in_table_b1") p1) [.Name (Str.ofString "sign") p2] [] p3) p4) (compEnvC prepScope [] C env) (eval (.UnaryOp .Not (.Call (.Name (Str.ofString "in_table_b1") p1) [.Name (Str.ofString "sign") p2] [] p3) p4) (compEnvC prepScope [] C env)))
      (fun ok s₄ => ok = !(b1 c) ∧ Keeps s s₄) E s := by
  unfold pg
  obtain ⟨B, X, S1, T, hh, hA, hf, hk, hd, hu⟩ := I
  revert X
  k_fill
  intro X
  have cE' := InElt.start s.heap
  walk1
  walk1
  walk1
  k_dflt (refine' nameG_K F X (topRead_of T) ?e ?_ hg ?k ?x ?d; (case k => exact rfl); (case x => exact rfl); (case d => decide); (case e => k_is))
  walk1
  walk1
  k_dflt (refine wpAny_Name (wpAny_loadName_local (by rfl) (by rfl) hn hm ?_) (by decide))
  walk1
  refine ⟨X.keeps F.keep, ?_⟩
  refine (c_inb1 w c t).useK B F X S1 T hh hA hf hk hd hu fun t' h' tk' F' k => ?_
  walk1
  exact ⟨rfl, h', tk', rfl, k⟩
theorem el_elt (I : InB w A A₀ base h₀ L m env outer loose mean mg mb 4 28) (F : Fr h₀ L s.heap m) (hn : s.heap.Ns C m₃) (hm : m₃ (Str.ofString "sign") = some (.str (ch c) t)) (hg : env.globals = mainGlobals) :
    wpAny (model pg w) A (eval (.Call (.Name (Str.ofString "map_table_b3") p1) [.Name (Str.ofString "sign") p2] [] p3) (compEnvC prepScope [] C env))
      (fun y s₄ => (∃ u, y = .str (mapb3 c) u) ∧ Keeps s s₄) E s := by
  unfold pg
  obtain ⟨B, X, S1, T, hh, hA, hf, hk, hd, hu⟩ := I
  revert X
  k_fill
  intro X
  have cE' := InElt.start s.heap
  walk1
  k_dflt (refine' nameG_K F X (topRead_of T) ?e ?_ hg ?k ?x ?d; (case k => exact rfl); (case x => exact rfl); (case d => decide); (case e => k_is))
  walk1
  walk1
  k_dflt (refine wpAny_Name (wpAny_loadName_local (by rfl) (by rfl) hn hm ?_) (by decide))
  walk1
  refine ⟨X.keeps F.keep, ?_⟩
  refine (c_mapb3 w c t).useK B F X S1 T hh hA hf hk hd hu fun t' h' tk' F' k => ?_
  exact ⟨⟨_, rfl⟩, h', tk', rfl, k⟩
/-- the words of a text prepared -/
noncomputable def prepWords (x : Str) : List Str := (x.cps.toList.filter fun c : Nat => !(b1 (c : Int))).map mapb3
noncomputable def signOf (v : Value) : Nat := match v with | .str x _ => x.cps.getD 0 0 | _ => 0
inductive StrsV : List Value → List Str → Prop
  | nil : StrsV [] []
  | cons {x : Str} {t : Tok} {vs : List Value} {xs : List Str} : StrsV vs xs → StrsV (.str x t :: vs) (x :: xs)
theorem strs_paired : ∀ {vs ys : List Value} {cs : List Nat}, vs.map signOf = cs → Paired (fun v y => ∃ u, y = .str (mapb3 (signOf v)) u) vs ys → StrsV ys (cs.map mapb3)
  | [], [], _, h, .nil => by subst h; exact .nil
  | v :: vs, y :: ys, _, h, .cons ⟨u, e⟩ p => by
    subst h
    rw [e]
    exact .cons (strs_paired rfl p)
theorem signs_map {x : Str} {vs : List Value} (hlen : vs.length = x.cps.size) (hP : ∀ (j : Nat) (v : Value), vs[j]? = some v → SignAt x j v) : vs.map signOf = x.cps.toList := by
  apply List.ext_getElem?
  intro j
  rw [List.getElem?_map]
  cases h : vs[j]? with
  | none =>
    rw [List.getElem?_eq_none_iff] at h
    rw [Option.map_none, eq_comm, List.getElem?_eq_none_iff]
    simpa [hlen] using h
  | some v =>
    obtain ⟨c, u, hc, rfl⟩ := hP j v h
    rw [Option.map_some, Array.getElem?_toList, hc]
    rfl
theorem filter_map_sign (g : Nat → Bool) (vs : List Value) : (vs.filter fun v => g (signOf v)).map signOf = (vs.map signOf).filter g := by
  rw [List.filter_map]; rfl
theorem strs_of_signs {x : Str} {vs : List Value} {ys : Array Value} (hlen : vs.length = x.cps.size) (hP : ∀ (j : Nat) (v : Value), vs[j]? = some v → SignAt x j v)
    (hF : Paired (fun v y => ∃ u, y = .str (mapb3 (signOf v)) u) (vs.filter fun v => !(b1 (signOf v))) ys.toList) : StrsV ys.toList (prepWords x) := by
  refine strs_paired ?_ hF
  rw [filter_map_sign fun c : Nat => !(b1 (c : Int)), signs_map hlen hP]
theorem prep_comp {x : Str} {tx : Tok} {p5 p6 p7 q1 q2 q3 : Pos} {Q : Value → Shared → Prop} (I : InB w A A₀ base h₀ L m env outer loose mean mg mb 4 28) (F : Fr h₀ L s.heap m) (hg : env.globals = mainGlobals) (hloc : env.locals = L)
    (hx : x.length ≤ sizeLine) (hmx : m (Str.ofString "text") = some (.str x tx)) (hkx : env.kindOf (Str.ofString "text") = some .local)
    (ret : ∀ D ys h' tk', Fr h₀ L h' m → s.heap.get? D = none → h'.IsList D ys.toArray → h'.PlainList D ys.toArray → StrsV ys (prepWords x) → Ext s.heap h' → Q (.ref D) { s with heap := h', toks := tk' }) :
    wpAny (model pg w) A (eval (.ListComp (.Call (.Name (Str.ofString "map_table_b3") p1) [.Name (Str.ofString "sign") p2] [] p3) [⟨.Name (Str.ofString "sign") p4, .Name (Str.ofString "text") p5, [.UnaryOp .Not (.Call (.Name (Str.ofString "in_table_b1") q1) [.Name (Str.ofString "sign") q2] [] q3) p6], 0⟩] prepScope p7) env) Q E s := by
  refine wpAny_ListComp_free (cl := []) (fun v => !(b1 (signOf v))) (fun v y => ∃ u, y = .str (mapb3 (signOf v)) u) (by rfl) (by decide) rfl (by decide) (by rfl) ?_ (fun _ => rfl)
  refine wpAny_Name (wpAny_loadName_local I.hk hkx (hloc ▸ F.ns) hmx ?_) (by decide)
  refine wpAny_pyIter_str fun o St W hst => ?_
  have up : ∀ (h' : Heap), (∀ b o', b ∉ [s.heap.objs.size] → (s.heap.push o).get? b = some o' → h'.get? b = some o') → Ext s.heap h' :=
    fun h' hk b o' e => hk b o' (old_not_new e) (Heap.get?_push_of_some _ e)
  refine ⟨s.heap.objs.size, [s.heap.objs.size], [s.heap.objs.size], x.cps.size, SignAt x, St, rfl, W A I.hh, hx, hst, ?_, ⟨?_, ?_⟩, ?_⟩
  · intro b hb
    show b < (s.heap.push o).objs.size
    rw [Heap.size_push, List.mem_singleton.mp hb]
    exact Nat.lt_succ_self _
  · intro C i v s₃ m₃ E' _ hP hn hm hk _
    obtain ⟨c, u, _, rfl⟩ := hP
    exact wpAny_tests_one (el_test I (F.keeps (up _ hk)) hn hm hg)
  · intro C i v s₃ m₃ E' _ hP hp hn hm hk _
    obtain ⟨c, u, _, rfl⟩ := hP
    exact el_elt I (F.keeps (up _ hk)) hn hm hg
  · intro D h' tk ys vs hnew hlD hplD hlen hP hF hk
    have hs : s.heap.get? D = none := by
      cases e : s.heap.get? D with
      | none => rfl
      | some o' => rw [Heap.get?_push_of_some _ e] at hnew; cases hnew
    refine ret D ys.toList h' tk (F.keeps (up h' hk)) hs (by rw [Array.toArray_toList]; exact hlD) (by rw [Array.toArray_toList]; exact hplD) ?_ (up h' hk)
    exact strs_of_signs hlen hP hF
end
end Mine
end
section
theorem Mine.begins_W6 : True := by
  w_top off
  trivial
open PySem PySem.W PyProof.Rows
set_option maxRecDepth 100000
set_option maxHeartbeats 4000000
namespace Mine
theorem StrsV.are : ∀ {vs : List Value} {xs : List Str}, StrsV vs xs → StrsAre vs xs
  | _, _, .nil => .nil
  | _, _, .cons h => .cons _ _ h.are
theorem big_len : bigEs.all (fun e => decide ((sOf e).length ≤ 4)) = true := by decide +kernel
theorem b3f_len {k : Int} {x : Str} (h : b3f k = some x) : x.length ≤ 4 := by
  unfold b3f at h
  obtain ⟨e, he, rfl⟩ := Option.map_eq_some_iff.mp h
  have := List.all_eq_true.mp big_len e (List.mem_of_find?_eq_some he)
  simpa using this
theorem mapb3_len (c : Nat) : (mapb3 c).length ≤ 4 := by
  unfold mapb3
  cases h : b3f c with
  | none =>
    have := len_lower (ch c)
    have h1 : (ch c).length = 1 := rfl
    show (Txt.lower (ch c)).length ≤ 4
    omega
  | some x => exact b3f_len h
theorem sum_len (f : Nat → Str) (hf : ∀ c, (f c).length ≤ 4) : ∀ l : List Nat, ((l.map f).map (·.length)).sum ≤ 4 * l.length
  | [] => by simp
  | c :: l => by
    have := sum_len f hf l
    have := hf c
    simp only [List.map_cons, List.sum_cons, List.length_cons]
    omega
theorem prepWords_sum (x : Str) : ((prepWords x).map (·.length)).sum + (prepWords x).length ≤ 5 * x.length := by
  unfold prepWords
  have h1 := sum_len mapb3 mapb3_len (x.cps.toList.filter fun c : Nat => !(b1 (c : Int)))
  have h2 : (x.cps.toList.filter fun c : Nat => !(b1 (c : Int))).length ≤ x.cps.toList.length := List.length_filter_le ..
  have h3 : x.cps.toList.length = x.length := by simp [Str.length]
  rw [List.length_map]
  omega
/-- a text prepared -/
noncomputable def prep (x : Str) : Str := Txt.join (Str.ofString "") (prepWords x)
local macro_rules | `(tactic| walk_at "eval ListComp") => `(tactic| (k_here; k_dflt (refine' prep_comp ?k1 ?k2 ?k3 ?k4 ?k5 ?k6 ?k7 ?_; (case k2 => k_asm); (case k1 => exact ⟨by k_asm, by k_asm, (by first | assumption | exact Extra.fr (by assumption) (by assumption)), by k_asm, rfl, rfl, rfl, rfl, by ktr_room, by ktr_units⟩); (case k3 => exact rfl); (case k4 => exact rfl); (case k6 => exact rfl); (case k7 => exact rfl); (case k5 => rw [sizeLine_eq]; omega)); intro D9 ys9 h9 tk9 F9 n9 l9 p9 v9 k9; (try dsimp only); (try k_fold)))
local macro_rules | `(tactic| walk_at "call builtin:str.join") => `(tactic| (k_here; (refine join_listW (by assumption) (StrsV.are (by assumption)) (by decide) ?k1 ?_); (case k1 => exact Nat.le_trans (prepWords_sum _) (by omega)); intro t8 k8))
local macro_rules | `(tactic| cell_enter) => `(tactic| (refine' pure_def ?k3 ?k5 ?k6 ?k7 ?k8 ?k9 ?kB ?_ ?c2 ?c3 ?c4 ?c5; (case k3 => k_asm); (case k5 => k_asm); (case k6 => k_is); (case k7 => k_is); (case k8 => ktr_room); (case k9 => exact BindsTo.of_eq rfl); (case c5 => decide); (case kB => exact locs rfl); (case c2 => exact rfl); (case c3 => exact rfl); (case c4 => exact rfl); k_whole; intro L' h' F' N'; (try dsimp only); (try k_fold)))
theorem c_prep (w : World) (x : Str) (t : Tok) (hx : x.length ≤ 65536) : PCl w (.ref 176) [.str x t] 6 40 (RV fun t => .str (prep x) t) := by
  unfold PCl pg
  k_fill
  
  intro A envs base s Q E loose mean mg mb hh B hA X S1 T hdp hun hret
  obtain ⟨ha, dp, fr, gd, un⟩ := A
  obtain rfl : ha = none := hh
  obtain rfl : fr = some envs := hA
  dsimp only at hdp hun B
  k_dflt cell_enter
  k_steps
  all_goals exact ⟨_, _, by k_asm, fun k => hret _ _ _ k ⟨_, rfl⟩⟩
end Mine
end
section
theorem Mine.begins_W7 : True := by
  w_top off
  trivial
open PySem PySem.W PyProof.Rows
set_option maxRecDepth 100000
set_option maxHeartbeats 8000000
namespace Mine
local macro_rules | `(tactic| cell_enter) => `(tactic| (refine' pure_def ?k3 ?k5 ?k6 ?k7 ?k8 ?k9 ?kB ?_ ?c2 ?c3 ?c4 ?c5; (case k3 => k_asm); (case k5 => k_asm); (case k6 => k_is); (case k7 => k_is); (case k8 => ktr_room); (case k9 => exact BindsTo.of_eq rfl); (case c5 => decide); (case kB => exact locs rfl); (case c2 => exact rfl); (case c3 => exact rfl); (case c4 => exact rfl); k_whole; intro L' h' F' N'; (try dsimp only); (try k_fold)))
noncomputable def hiddenFrom : List (Int × Int) → Int → Int
  | [], _ => 0
  | (a, n) :: r, k => if k < n then a + k else hiddenFrom r (k - n)
/-- what _law_hidden gives back -/
noncomputable def hiddenF (k : Int) : Int := hiddenFrom [(173, 1), (847, 1), (6150, 1), (6155, 3), (8203, 3), (8288, 1), (65024, 16), (65279, 1)] k
theorem hid1 {a n k v : Int} {r : List (Int × Int)} (h : k < n) (e : v = a + k) : v = hiddenFrom ((a, n) :: r) k := by
  subst e; exact (if_pos h).symm
theorem hid2 {a n k v : Int} {r : List (Int × Int)} (h : ¬ k < n) (e : v = hiddenFrom r (k - n)) : v = hiddenFrom ((a, n) :: r) k :=
  e.trans (if_neg h).symm
theorem c_hidden (w : World) (k : Int) (t : Tok) (h0 : 0 ≤ k) (h1 : k < 27) : PCl w (.ref 164) [.int k t] 4 28 (RV fun t => .int (hiddenF k) t) := by
  unfold PCl pg
  k_fill
  
  intro A envs base s Q E loose mean mg mb hh B hA X S1 T hdp hun hret
  obtain ⟨ha, dp, fr, gd, un⟩ := A
  obtain rfl : ha = none := hh
  obtain rfl : fr = some envs := hA
  dsimp only at hdp hun B
  k_dflt cell_enter
  walk1
  walk1
  (rename Fr _ _ _ _ => lF')
  refine @For_turns _ _ _ _ _ _ _ _ _ _ _ _ _ lF' ?_ (fun _ => rfl) (by passes_own)
  k_steps
  all_goals first | (exfalso; omega) | exact ⟨_, _, by k_asm, fun kk => hret _ _ _ kk ⟨_, by congr 1; unfold hiddenF; repeat first | exact hid1 (by omega) (by omega) | refine hid2 (by omega) ?_⟩⟩
end Mine
end
section
theorem Mine.begins_W8 : True := by
  w_top off
  trivial
open PySem PySem.W PyProof.Rows
set_option maxRecDepth 100000
set_option maxHeartbeats 8000000
namespace Mine
noncomputable abbrev wordsL : List Str := [Str.ofString "ßss", Str.ofString "㎐hz", Str.ofString "㎒mhz", Str.ofString "㎩pa", Str.ofString "㏈db", Str.ofString "㏍kk", Str.ofString "㏙ppm", Str.ofString "ﬀff", Str.ofString "ﬃffi", Str.ofString "ﬆst", Str.ofString "℡tel", Str.ofString "₨rs"]
noncomputable def wordAt (n : Int) : Str := wordsL.getD ((n.fdiv 6).fmod 12).toNat Str.empty
noncomputable def letterOf (n : Int) : Str := ⟨#[(97 + (n.fdiv 6).fmod 26).toNat]⟩
/-- what _law_sign gives back -/
noncomputable def signF (n : Int) : Str × Str :=
  if n.fmod 6 = 1 then (⟨#[(hiddenF ((n.fdiv 6).fmod 27)).toNat]⟩, Str.ofString "")
  else if n.fmod 6 = 2 then (letterOf n, letterOf n)
  else if n.fmod 6 = 3 then (⟨#[(65 + (n.fdiv 6).fmod 26).toNat]⟩, letterOf n)
  else if n.fmod 6 = 4 then (⟨#[(119808 + 52 * ([0, 1, 2, 4, 7, 8, 9, 10, 11, 12] : List Int).getD (((n.fdiv 6).fdiv 26).fmod 10).toNat 0 + (n.fdiv 6).fmod 26).toNat]⟩, letterOf n)
  else (Txt.item (wordAt n) 0, Txt.slice (wordAt n) (some 1) none)
theorem word_len (n : Int) : 2 ≤ ([Str.ofString "ßss", Str.ofString "㎐hz", Str.ofString "㎒mhz", Str.ofString "㎩pa", Str.ofString "㏈db", Str.ofString "㏍kk", Str.ofString "㏙ppm", Str.ofString "ﬀff", Str.ofString "ﬃffi", Str.ofString "ﬆst", Str.ofString "℡tel", Str.ofString "₨rs"].getD ((n.fdiv 6).fmod 12).toNat Str.empty).length ∧ ([Str.ofString "ßss", Str.ofString "㎐hz", Str.ofString "㎒mhz", Str.ofString "㎩pa", Str.ofString "㏈db", Str.ofString "㏍kk", Str.ofString "㏙ppm", Str.ofString "ﬀff", Str.ofString "ﬃffi", Str.ofString "ﬆst", Str.ofString "℡tel", Str.ofString "₨rs"].getD ((n.fdiv 6).fmod 12).toNat Str.empty).length ≤ 4 := by
  have h0 : 0 ≤ (n.fdiv 6).fmod 12 := Int.fmod_nonneg_of_pos _ (by decide)
  have h1 : (n.fdiv 6).fmod 12 < 12 := Int.fmod_lt_of_pos _ (by decide)
  have h2 : ((n.fdiv 6).fmod 12).toNat < 12 := by omega
  generalize ((n.fdiv 6).fmod 12).toNat = k at h2
  have h : ∀ k, k < 12 → 2 ≤ ([Str.ofString "ßss", Str.ofString "㎐hz", Str.ofString "㎒mhz", Str.ofString "㎩pa", Str.ofString "㏈db", Str.ofString "㏍kk", Str.ofString "㏙ppm", Str.ofString "ﬀff", Str.ofString "ﬃffi", Str.ofString "ﬆst", Str.ofString "℡tel", Str.ofString "₨rs"].getD k Str.empty).length ∧ ([Str.ofString "ßss", Str.ofString "㎐hz", Str.ofString "㎒mhz", Str.ofString "㎩pa", Str.ofString "㏈db", Str.ofString "㏍kk", Str.ofString "㏙ppm", Str.ofString "ﬀff", Str.ofString "ﬃffi", Str.ofString "ﬆst", Str.ofString "℡tel", Str.ofString "₨rs"].getD k Str.empty).length ≤ 4 := by decide +kernel
  exact h k h2
theorem face_len (k : Nat) : (0 : Int) ≤ [0, 1, 2, 4, 7, 8, 9, 10, 11, 12].getD k 0 ∧ [0, 1, 2, 4, 7, 8, 9, 10, 11, 12].getD k 0 ≤ (12 : Int) := by
  by_cases h : k < 10
  · have h' : ∀ k, k < 10 → (0 : Int) ≤ [0, 1, 2, 4, 7, 8, 9, 10, 11, 12].getD k 0 ∧ [0, 1, 2, 4, 7, 8, 9, 10, 11, 12].getD k 0 ≤ (12 : Int) := by decide +kernel
    exact h' k h
  · have e : ([0, 1, 2, 4, 7, 8, 9, 10, 11, 12] : List Int).getD k 0 = 0 := by
      rw [List.getD_eq_getElem?_getD, List.getElem?_eq_none (by simpa using h)]; rfl
    rw [e]; decide
theorem hidden_b (k : Int) (h0 : 0 ≤ k) (h1 : k < 27) : 0 ≤ hiddenF k ∧ hiddenF k ≤ 65279 := by
  have h : ∀ j : Nat, j < 27 → 0 ≤ hiddenF (j : Int) ∧ hiddenF (j : Int) ≤ 65279 := by decide +kernel
  have := h k.toNat (by omega)
  rw [Int.toNat_of_nonneg h0] at this
  exact this
local macro_rules | `(tactic| cell_enter) => `(tactic| (refine' pure_def ?k3 ?k5 ?k6 ?k7 ?k8 ?k9 ?kB ?_ ?c2 ?c3 ?c4 ?c5; (case k3 => k_asm); (case k5 => k_asm); (case k6 => k_is); (case k7 => k_is); (case k8 => ktr_room); (case k9 => exact BindsTo.of_eq rfl); (case c5 => decide); (case kB => exact locs rfl); (case c2 => exact rfl); (case c3 => exact rfl); (case c4 => exact rfl); k_whole; intro L' h' F' N'; (try dsimp only); (try k_fold)))
local macro_rules | `(tactic| walk_at "call ref") => `(tactic| (k_here; (with_reducible show wpAny _ _ (call (Value.ref 164) _) _ _ _); k_dflt (refine' PCl.useV (c_hidden _ _ _ ?q1 ?q2) ?k1 ?k2 ?k3 ?k4 ?k5 ?k6 ?k7 ?k8 ?k9 ?k10 ?k11 ?k12 ?_; (case k1 => k_asm); (case k2 => k_asm); (case k3 => k_asm); (case k4 => first | assumption | exact Extra.fr (by assumption) (by assumption)); (case k5 => k_asm); (case k6 => k_asm); (case k7 => exact rfl); (case k8 => exact rfl); (case k9 => exact rfl); (case k10 => first | exact rfl | assumption); (case k11 => ktr_room); (case k12 => ktr_units); (case q1 => omega); (case q2 => omega)); intro t9 h9 tk9 F9 N9; (try dsimp only); (try k_fold)))
local macro_rules | `(tactic| walk_at "call builtin:chr") => `(tactic| (k_here; (refine chr_of_range (by first | omega | exact (hidden_b _ (by omega) (by omega)).1) (by first | omega | exact Int.le_trans (hidden_b _ (by omega) (by omega)).2 (by decide)) ?_)))
theorem c_sign (w : World) (n : Int) (t : Tok) (h0 : 0 ≤ n) (h1 : n < 1000000) (h6 : n.fmod 6 ≠ 0) : PCl w (.ref 171) [.int n t] 8 60 (RT fun a b => signF n = (a, b)) := by
  have hw := word_len n
  have hf := face_len (((n.fdiv 6).fdiv 26).fmod 10).toNat
  have hm0 : 0 ≤ (n.fdiv 6).fmod 26 := Int.fmod_nonneg_of_pos _ (by decide)
  have hm1 : (n.fdiv 6).fmod 26 < 26 := Int.fmod_lt_of_pos _ (by decide)
  have hk0 : 0 ≤ (n.fdiv 6).fmod 27 := Int.fmod_nonneg_of_pos _ (by decide)
  have hk1 : (n.fdiv 6).fmod 27 < 27 := Int.fmod_lt_of_pos _ (by decide)
  unfold PCl pg
  k_fill
  
  intro A envs base s Q E loose mean mg mb hh B hA X S1 T hdp hun hret
  obtain ⟨ha, dp, fr, gd, un⟩ := A
  obtain rfl : ha = none := hh
  obtain rfl : fr = some envs := hA
  dsimp only at hdp hun B
  k_dflt cell_enter
  k_steps
  all_goals (try dsimp only)
  all_goals (rename News _ _ _ _ => kN; refine ⟨_, _, by k_asm, fun k => hret _ _ _ k ⟨_, _, _, _, _, rfl, by unfold signF; simp only [*, if_true, if_false, ne_eq, not_false_iff] <;> rfl, (kN _ (.head _)).1, (kN _ (.head _)).2.2⟩⟩)
end Mine
end
section
set_option maxHeartbeats 200000
open PySem PySem.W PyProof.Rows
set_option maxRecDepth 100000
namespace Mine
section
variable {M : Model} {A : Around} {Φ : End → Shared → Prop} {c : Code} {fs : List Frame} {s : Shared}
/-- a piece of a generator's run, to its next stop: what is true of the stop -/
noncomputable def SegE (M : Model) (A : Around) (Φ : End → Shared → Prop) (c : Code) (t : Sem PySem.Fin) (fs : List Frame) (s : Shared) : Prop :=
  ∀ Γ p, Γ.code = c → Γ.Woken A → ∃ e s', Runs M Γ p t fs s e s' ∧ Φ e s'
theorem sg_wrap {α : Type} {m : Sem α} {K : α → Sem PySem.Fin} {H : Value → Sem PySem.Fin} {gd lv}
    (h : wpAny M (A.over c fs) m (fun a s' => SegE M A Φ c (K a) fs s') (fun x s' => SegE M A Φ c (H x) fs s') s) : SegE M A Φ c (m.wrap K H gd lv) fs s := by
  rintro Γ p rfl hΓ
  exact runs_wrap_of_wp K H gd lv m (h (Γ.over fs) p (hΓ.over fs)) (fun a p' s' h' => h' Γ p' rfl hΓ) (fun x p' s' h' => h' Γ p' rfl hΓ)
theorem sg_at {p' : Pos} {k : Unit → Sem PySem.Fin} (h : SegE M A Φ c (k ()) fs s) : SegE M A Φ c (.at p' k) fs s :=
  sg_wrap (m := standAt p') (K := k) (H := .raise) (gd := id) (lv := id) (wpAny_standAt h)
theorem sg_point {l : List Value} {k : Unit → Sem PySem.Fin} (h : SegE M A Φ c (k ()) fs s) : SegE M A Φ c (.point l k) fs s :=
  sg_wrap (m := point) (K := k) (H := .raise) (gd := id) (lv := fun _ => l) (wpAny_point h)
theorem sg_call {c' : Code} {h g l} {k : Result → Sem PySem.Fin} (hc : ∀ p, SegE M A Φ c' (M.den c') (.ret k h g l c p [] :: fs) s) : SegE M A Φ c (.call c' h g l k) fs s := by
  rintro Γ p rfl hΓ
  obtain ⟨e, s', hr, he⟩ := hc p (Γ.goto c') p rfl (hΓ.goto c')
  exact ⟨e, s', runs_call_seg hr, he⟩
theorem sg_leaf {k h g l c₁ p₁ kp} (r : Result) (hk : SegE M A Φ c₁ (k r) fs s) : SegE M A Φ c (leafOf r) (.ret k h g l c₁ p₁ kp :: fs) s := by
  rintro Γ p rfl hΓ
  obtain ⟨e, s', hr, he⟩ := hk (Γ.goto c₁) p₁ rfl (hΓ.goto c₁)
  exact ⟨e, s', Runs.pop r hr, he⟩
theorem sg_again {c' : Code} (hq : c'.quiet = true) (hc : SegE M A Φ c' (M.den c') fs s) : SegE M A Φ c (.pure (.again c')) fs s := by
  rintro Γ p rfl hΓ
  obtain ⟨e, s', hr, he⟩ := hc (Γ.goto c') p rfl (hΓ.goto c')
  exact ⟨e, s', Runs.head (c₁ := c') (fun _ _ x => .again hq x) hr, he⟩
theorem sg_end (r : Result) (h : Φ (.ret r) s) : SegE M A Φ c (leafOf r) [] s := by
  rintro Γ p rfl _
  exact ⟨.ret r, s, Runs.leaf r, h⟩
theorem sg_yield {v g l} {k : Resume → Sem PySem.Fin} (hfs : splitAtGen fs = none) (h : ∀ p, Φ (.susp v g l k c p fs) s) : SegE M A Φ c (.yield v g l k) fs s := by
  rintro Γ p rfl _
  exact ⟨_, s, Runs.yield' fs hfs, h p⟩
/-- a generator is woken: what its piece ends in is what the waker has -/
theorem wp_wake {A : Around} {E : Value → Shared → Prop} {s : Shared} {g : Nat} {gs : GenState} {r : Resume} {l : List Value} {α : Type} {k : GenResult → Sem α} {Q : α → Shared → Prop} {Φ : End → Shared → Prop}
    (hg : s.gens[g]? = some gs)
    (hgo : match gs with
      | .fresh c => r = .send .none ∧ SegE M A Φ c (M.den c) [] (s.setGen g .running)
      | .suspended k _ c _ fs _ => SegE M A Φ c (k r) fs (s.setGen g .running)
      | _ => False)
    (hq : ∀ e s₁, Φ e s₁ → e.quiet = true)
    (hR : ∀ e s₁, Φ e s₁ → wpAny M A (k e.result) Q E (s₁.setGen g e.genState)) : wpAny M A (.resume g r l k) Q E s := by
  intro Γ p hΓ
  rw [Sem.wp_resume]
  cases gs with
  | fresh c =>
    obtain ⟨rfl, hs⟩ := hgo
    obtain ⟨e₁, s₁, hr, he⟩ := hs (Γ.wake c p) p rfl (hΓ.wake c p)
    exact ⟨_, _, by unfold Wakes; rw [hg]; exact ⟨e₁, s₁, hr, hq e₁ s₁ he, rfl, rfl⟩, hR e₁ s₁ he Γ p hΓ⟩
  | suspended k₀ l₀ c₀ p₀ fs₀ cl =>
    obtain ⟨e₁, s₁, hr, he⟩ := hgo (Γ.wake c₀ p) p₀ rfl (hΓ.wake c₀ p)
    exact ⟨_, _, by unfold Wakes; rw [hg]; exact ⟨e₁, s₁, hr, hq e₁ s₁ he, rfl, rfl⟩, hR e₁ s₁ he Γ p hΓ⟩
  | running => exact hgo.elim
  | finished => exact hgo.elim
end
end Mine
end
section
theorem Mine.begins_G1 : True := by
  w_top off
  trivial
open PySem PySem.W PyProof.Rows
set_option maxRecDepth 100000
set_option maxHeartbeats 4000000
namespace Mine
noncomputable def ancScope : Scope := { kind := .function, names := [(Str.ofString "path", .local), (Str.ofString "tail", .local), (Str.ofString "sep", .globalImplicit), (Str.ofString "split", .globalImplicit)], isGenerator := true, isCoroutine := false }
noncomputable abbrev aSI : PySem.Expr := .Call (.Attribute (.Name (Str.ofString "path") ⟨42, 11, 42, 15⟩) (Str.ofString "rstrip") ⟨42, 11, 42, 22⟩) [.Name (Str.ofString "sep") ⟨42, 23, 42, 26⟩] [] ⟨42, 11, 42, 27⟩
noncomputable abbrev aST : PySem.Expr := .Call (.Attribute (.Name (Str.ofString "path") ⟨43, 10, 43, 14⟩) (Str.ofString "rstrip") ⟨43, 10, 43, 21⟩) [.Name (Str.ofString "sep") ⟨43, 22, 43, 25⟩] [] ⟨43, 10, 43, 26⟩
noncomputable abbrev genv (L : Addr) : Env := envOf (Str.ofString "_ancestry") ancScope L 49 (.ref 48)
noncomputable abbrev gA (dp un : Nat) (gd : Option (List Code)) (L : Addr) (outer : List Env) : Around := { handled := none, depth := dp, frames := some (genv L :: outer), guards := gd, units := un }
theorem put_same {m : Str → Option Value} {x : Str} {v : Value} (h : m x = some v) : m = fun y => if y = x then some v else m y := by
  funext y
  by_cases e : y = x
  · subst e; rw [if_pos rfl, h]
  · rw [if_neg e]
section
variable {w : World} {dp un : Nat} {gd : Option (List Code)} {outer : List Env} {g : Heap} {L : Addr} {m : Str → Option Value} {s : Shared} {Q E : Value → Shared → Prop} {loose : List Str} {mean : ExcName → Option Value} {mg mb : Str → Option Value} {P : Str} {t : Tok}
theorem a_stripI (F : Fr g L s.heap m) (X : (hd.heap_39 w.params).In g) (T : Top qv loose mean mg mb g) (hm : m (Str.ofString "path") = some (.str P t)) (hP : P.length ≤ 65536)
    (h : ∀ t' tk', Q (.str (Txt.rstripChars P (Str.ofString "/")) t') { s with toks := tk' }) :
    wpAny (model pg w) (gA dp un gd L outer) (eval aSI (genv L)) Q E s := by
  unfold pg aSI genv
  revert X
  k_fill
  intro X
  rw [put_same hm] at F
  clear hm
  k_steps
  all_goals exact h _ _
theorem a_stripT (F : Fr g L s.heap m) (X : (hd.heap_39 w.params).In g) (T : Top qv loose mean mg mb g) (hm : m (Str.ofString "path") = some (.str P t)) (hP : P.length ≤ 65536)
    (h : ∀ t' tk', Q (.str (Txt.rstripChars P (Str.ofString "/")) t') { s with toks := tk' }) :
    wpAny (model pg w) (gA dp un gd L outer) (eval aST (genv L)) Q E s := by
  unfold pg aST genv
  revert X
  k_fill
  intro X
  rw [put_same hm] at F
  clear hm
  k_steps
  all_goals exact h _ _
noncomputable abbrev aI : Stmt := .Assign [.Name (Str.ofString "path") ⟨42, 4, 42, 8⟩] aSI ⟨42, 4, 42, 27⟩
noncomputable abbrev aY : Stmt := .Expr (.Yield (some (.Name (Str.ofString "path") ⟨44, 14, 44, 18⟩)) ⟨44, 8, 44, 18⟩) ⟨44, 8, 44, 18⟩
noncomputable abbrev aS : Stmt := .Assign [.Tuple [.Name (Str.ofString "path") ⟨45, 8, 45, 12⟩, .Name (Str.ofString "tail") ⟨45, 14, 45, 18⟩] 0 ⟨45, 8, 45, 18⟩] (.Call (.Name (Str.ofString "split") ⟨45, 21, 45, 26⟩) [.Name (Str.ofString "path") ⟨45, 27, 45, 31⟩] [] ⟨45, 21, 45, 32⟩) ⟨45, 8, 45, 32⟩
noncomputable abbrev aW : Stmt := .While aST [aY, aS] [] ⟨43, 4, 45, 32⟩
noncomputable abbrev ancB : List Stmt := [aI, aW]
theorem a_init {Q : Flow → Shared → Prop} {news : List (Addr × Obj)} (F : Fr g L s.heap m) (N : News g L s.heap news) (X : (hd.heap_39 w.params).In g) (T : Top qv loose mean mg mb g) (hm : m (Str.ofString "path") = some (.str P t)) (hP : P.length ≤ 65536)
    (h : ∀ h' tk' t' m', m' (Str.ofString "path") = some (.str (Txt.rstripChars P (Str.ofString "/")) t') → Fr g L h' m' → News g L h' news → Q .next { s with heap := h', toks := tk' }) :
    wpAny (model pg w) (gA dp un gd L outer) (exec aI (genv L)) Q E s := by
  unfold pg aI aSI genv
  revert X
  k_fill
  intro X
  rw [put_same hm] at F
  clear hm
  k_steps
  all_goals (refine' h _ _ _ _ ?a ?b ?c; (case b => k_asm); (case c => k_asm); (case a => exact if_pos rfl))
theorem a_test (F : Fr g L s.heap m) (X : (hd.heap_39 w.params).In g) (T : Top qv loose mean mg mb g) (hm : m (Str.ofString "path") = some (.str P t)) (hP : P.length ≤ 65536) {Q : Bool → Shared → Prop}
    (h : ∀ tk', Q (((Txt.rstripChars P (Str.ofString "/")).length : Int) != 0) { s with toks := tk' }) :
    wpAny (model pg w) (gA dp un gd L outer) (isTrue aST (genv L) (eval aST (genv L))) Q E s := by
  unfold pg aST genv
  revert X
  k_fill
  intro X
  rw [put_same hm] at F
  clear hm
  k_steps
  all_goals exact h _
end
theorem PCl.useTG {w : World} {f : Value} {vs : List Value} {d u : Nat} {P : Str → Str → Prop} (C : PCl w f vs d u (RT P))
    {A : Around} {env : Env} {outer : List Env} {base h₀ : Heap} {L : Addr} {m : Str → Option Value} {s : Shared} {Q E : Value → Shared → Prop}
    {loose : List Str} {mean : ExcName → Option Value} {mg mb : Str → Option Value} {news : List (Addr × Obj)}
    (B : Below { A with frames := some (env :: outer) } base (env :: outer) s.heap) (F : Fr h₀ L s.heap m) (X : (hd.heap_39 w.params).In h₀) (S1 : Extra w h₀) (N : News h₀ L s.heap news) (T : Top qv loose mean mg mb h₀)
    (hh : A.handled = none) (hA : A.frames = some (env :: outer))
    (hd : A.depth + d < recursionLimit) (hu : A.units + u < cLine)
    (ret : ∀ D x y t u h' tk', P x y → Fr h₀ L h' m → News h₀ L h' ((D, tup2 x t y u) :: news) → AllNe D news → Q (.ref D) { s with heap := h', toks := tk' }) :
    wpAny (model pg w) A (call f vs) Q E s := by
  refine C A (env :: outer) base s Q E loose mean mg mb hh B hA (X.keeps F.keep) (S1.fr F) (T.keeps F.keep) hd hu fun v h' tk' k r => ?_
  obtain ⟨D, x, y, t, u, rfl, hP, hD, hn⟩ := r
  refine ret D x y t u h' tk' hP ⟨F.ns.at' fun o e => k _ o e, fun b o e => k b o (F.keep b o e), F.above⟩ (fun p hp => ?_) (allNe_of fun p hp e => ?_)
  · rcases List.mem_cons.mp hp with rfl | hp
    · refine ⟨hD, ?_, ?_⟩
      · rintro rfl
        obtain ⟨o, _, _, ho, _⟩ := F.ns
        rw [show s.heap.get? D = none from hn] at ho; cases ho
      · cases e : h₀.get? D with
        | none => rfl
        | some o => have := F.keep _ _ e; rw [hn] at this; cases this
    · exact ⟨k _ _ (N p hp).1, (N p hp).2⟩
  · have := (N p hp).1
    rw [e, hn] at this; cases this
section
variable {w : World} {dp un : Nat} {gd : Option (List Code)} {outer : List Env} {base g : Heap} {L : Addr} {m : Str → Option Value} {s : Shared} {Q : Flow → Shared → Prop} {E : Value → Shared → Prop} {loose : List Str} {mean : ExcName → Option Value} {mg mb : Str → Option Value} {P : Str} {t : Tok}
local macro_rules | `(tactic| walk_at "call ref") => `(tactic| (k_here; (with_reducible show wpAny _ _ (call (Value.ref 42) _) _ _ _); k_dflt (refine' PCl.useTG (c_split _ _ _ ?q) ?k1 ?k2 ?k3 ?k4 ?k5 ?k6 ?k7 ?k8 ?k11 ?k12 ?_; (case q => omega); (case k1 => assumption); (case k2 => k_asm); (case k3 => k_asm); (case k4 => assumption); (case k5 => k_asm); (case k6 => k_asm); (case k7 => exact rfl); (case k8 => exact rfl); (case k11 => assumption); (case k12 => assumption)); intro D9 x9 y9 t9 u9 h9 tk9 P9 F9 N9 n9; (try dsimp only); (try k_fold)))
theorem a_split {news : List (Addr × Obj)} (B : Below (gA dp un gd L outer) base (genv L :: outer) s.heap) (F : Fr g L s.heap m) (N : News g L s.heap news) (X : (hd.heap_39 w.params).In g) (S1 : Extra w g) (T : Top qv loose mean mg mb g) (hm : m (Str.ofString "path") = some (.str P t)) (hP : P.length ≤ 4096)
    (hd : dp + 4 < recursionLimit) (hu : un + 28 < cLine)
    (h : ∀ x y h' tk' t' m', splitF P = (x, y) → m' (Str.ofString "path") = some (.str x t') → Fr g L h' m' → News g L h' news → Q .next { s with heap := h', toks := tk' }) :
    wpAny (model pg w) (gA dp un gd L outer) (exec aS (genv L)) Q E s := by
  unfold pg aS genv
  revert X
  k_fill
  intro X
  rw [put_same hm] at F
  clear hm
  k_steps
  all_goals (rename News _ _ _ _ => kN; refine' h _ _ _ _ _ _ (by assumption) ?a ?b (fun p hp => kN p (.tail _ hp)); (case b => k_asm); (case a => (refine Eq.trans (if_neg (by decide)) ?_; refine Eq.trans (if_pos rfl) ?_; exact rfl)))
end
end Mine
end
section
open PySem PySem.W PyProof.Rows
set_option maxRecDepth 100000
set_option maxHeartbeats 4000000
namespace Mine
noncomputable abbrev wlc (L : Addr) : Code := .whileLoop aST [aY, aS] [] (genv L)
/-- how a piece of the generator ends -/
noncomputable def GTail (w : World) (L : Addr) (Nx : GenState → Prop) (P : Str) (g : Heap) (news : List (Addr × Obj)) (s : Shared) : End → Shared → Prop := fun e s' =>
  ∃ h' tk' t' m', s' = { s with heap := h', toks := tk' } ∧ m' (Str.ofString "path") = some (.str P t') ∧ Fr g L h' m' ∧ News g L h' news ∧
    (if (((Txt.rstripChars P (Str.ofString "/")).length : Int) != 0) = true then e.quiet = true ∧ (∃ tv, e.result = .yielded (.str P tv)) ∧ Nx e.genState else e = .ret (.ok (.ret .none)))
/-- what a run of the generator may lean on -/
noncomputable def GGo (w : World) (L : Addr) (Nx : GenState → Prop) (F : Str → Str) (run : Around → (End → Shared → Prop) → Shared → Prop) : Prop :=
  ∀ (A : Around) (outer : List Env) (base g : Heap) (m : Str → Option Value) (s : Shared) (P : Str) (t : Tok) (news : List (Addr × Obj)) (loose : List Str) (mean : ExcName → Option Value) (mg mb : Str → Option Value),
    A.handled = none → A.frames = some outer → (∀ h', (∀ b o, g.get? b = some o → h'.get? b = some o) → (∀ p ∈ news, h'.get? p.1 = some p.2) → base.StaysIn h' ∧ h'.FunFrames base outer) → base.get? L = none → Fr g L s.heap m → News g L s.heap news → (hd.heap_39 w.params).In g → Extra w g → Top qv loose mean mg mb g →
    m (Str.ofString "path") = some (.str P t) → P.length ≤ 4096 → A.depth + 6 < recursionLimit → A.units + 40 < cLine → run A (GTail w L Nx (F P) g news s) s
noncomputable def GGoes (w : World) (L : Addr) : Nat → GenState → Prop
  | 0 => fun _ => True
  | n + 1 => fun gs => match gs with
    | .suspended k _ c _ fs _ => GGo w L (GGoes w L n) (fun P => (splitF P).1) (fun A Φ s => SegE (model pg w) A Φ c (k (.send .none)) fs s)
    | _ => False
theorem sge_execs_cons {M : Model} {A : Around} {Φ : End → Shared → Prop} {c : Code} {fs : List Frame} {s : Shared} {env : Env} {K : Flow → Sem PySem.Fin} {H : Value → Sem PySem.Fin} {gd : Bool → Bool} {lv : List Value → List Value} {st : Stmt} {rest : List Stmt}
    (h : SegE M A Φ c ((exec st env).wrap (fun f => match f with | .next => (execs rest env).wrap K H gd lv | f => K f) H gd lv) fs s) :
    SegE M A Φ c ((execs (st :: rest) env).wrap K H gd lv) fs s := by rw [execs_cons_wrap]; exact h
theorem sge_Yield {M : Model} {A : Around} {Φ : End → Shared → Prop} {c : Code} {fs : List Frame} {s : Shared} {env : Env} {K : Flow → Sem PySem.Fin} {H : Value → Sem PySem.Fin} {gd : Bool → Bool} {lv : List Value → List Value} {e : PySem.Expr} {ypos pos : Pos} (hfs : splitAtGen fs = none)
    (h : wpAny M (A.over c fs) (eval e env) (fun v s' => ∀ l p k, (∀ A' Φ' s'', SegE M A' Φ' c (K .next) fs s'' → SegE M A' Φ' c (k (.send .none)) fs s'') → Φ (.susp v (gd false) l k c p fs) s')
      (fun x s' => SegE M A Φ c (H x) fs s') s) (hco : env.scope.isCoroutine = false := by rfl) (hi : interactive env = false := by rfl) :
    SegE M A Φ c ((exec (.Expr (.Yield (some e) ypos) pos) env).wrap K H gd lv) fs s := by
  rw [exec_Expr env _ pos hi rfl]
  show SegE M A Φ c (.at pos fun _ => ((eval e env >>= fun v => (standAt ypos >>= fun _ => yieldOut env v)) >>= fun x =>
    dropValue (.Yield (some e) ypos) pos x).wrap K H gd lv) fs s
  have hy : ∀ v, yieldOut env v = yieldValue v := fun v => by simp only [yieldOut, hco, Bool.false_eq_true, if_false]
  simp only [hy]
  refine sg_at ?_
  rw [Sem.bind_eq_wrap', Sem.bind_eq_wrap', Sem.wrap_wrap, Sem.wrap_wrap]
  refine sg_wrap (wpAny_mono h (fun v s' h' => ?_) fun _ _ x => x)
  refine sg_at (sg_yield hfs fun p => h' _ p _ fun A' Φ' s'' hx => hx)
theorem sge_whileLoop {prog : Program} {w : World} {A : Around} {Φ : End → Shared → Prop} {fs : List Frame} {s : Shared} {env : Env} {test : PySem.Expr} {body orelse : List Stmt}
    (h : wpAny (model prog w) (A.over (.whileLoop test body orelse env) fs) (isTrue test env (eval test env)) (fun b s' =>
        if b = true then
          ∀ H, SegE (model prog w) A Φ (.whileLoop test body orelse env) ((execs body env).wrap (fun f => match f with
            | .next | .cont => .pure (.again (.whileLoop test body orelse env))
            | .brk => .pure (.done .next)
            | .ret v => .pure (.done (.ret v))) H id id) fs s'
        else ∀ H, SegE (model prog w) A Φ (.whileLoop test body orelse env) ((execs orelse env).wrap (fun f => .pure (.done f)) H id id) fs s')
      (fun _ _ => False) s) :
    SegE (model prog w) A Φ (.whileLoop test body orelse env) ((model prog w).den (.whileLoop test body orelse env)) fs s := by
  show SegE _ A Φ _ ((whileTurn test body orelse env).onRaise (fun x => do noteFrame x env; theTreesLotGoes x)) fs s
  unfold whileTurn
  rw [Sem.onRaise_eq_wrap, Sem.bind_eq_wrap', Sem.wrap_wrap]
  refine sg_wrap (wpAny_mono h (fun b s' hb => ?_) fun x s' hx => hx.elim)
  cases b with
  | true =>
    rw [if_pos rfl] at hb
    show SegE _ A Φ _ (Sem.wrap _ _ _ _ (if true = true then _ else _)) fs s'
    rw [if_pos rfl, Sem.bind_eq_wrap', Sem.wrap_wrap]
    rw [Sem.wrap_congr (execs body env) _ _ (K' := fun f => match f with
          | .next | .cont => .pure (.again (.whileLoop test body orelse env))
          | .brk => .pure (.done .next)
          | .ret v => .pure (.done (.ret v)))
      (fun f => by cases f <;> rfl)
      (fun e => rfl)]
    exact hb _
  | false =>
    rw [if_neg Bool.false_ne_true] at hb
    show SegE _ A Φ _ (Sem.wrap _ _ _ _ (if false = true then _ else _)) fs s'
    rw [if_neg Bool.false_ne_true, Sem.bind_eq_wrap', Sem.wrap_wrap]
    rw [Sem.wrap_congr (execs orelse env) _ _ (K' := fun f => (.pure (.done f) : Sem PySem.Fin)) (fun f => by rfl) (fun e => rfl)]
    exact hb _
end Mine
end
section
open PySem PySem.W PyProof.Rows
set_option maxRecDepth 100000
set_option maxHeartbeats 4000000
namespace Mine
theorem ggoes_succ {w : World} {L : Addr} {n : Nat} {k l c p fs cl} : GGoes w L (n + 1) (.suspended k l c p fs cl) = GGo w L (GGoes w L n) (fun P => (splitF P).1) (fun A Φ s => SegE (model pg w) A Φ c (k (.send .none)) fs s) := rfl
theorem split_len (x : Str) : (splitF x).1.length ≤ x.length := by
  unfold splitF
  dsimp only
  split
  · exact PyProof.Txt.length_slice_le _ _ _
  · split
    · exact PyProof.Txt.length_slice_le _ _ _
    · exact Nat.le_trans (len_rstripChars _ _) (PyProof.Txt.length_slice_le _ _ _)
section
variable {w : World} {L : Addr} {outer : List Env}
noncomputable def aF (L : Addr) (k0 : Result → Sem PySem.Fin) (p0 : Pos) : List Frame := [.ret k0 none false [] (.func ancB (genv L)) p0 []]
theorem a_over {A : Around} {k0 p0} (hh : A.handled = none) (hf : A.frames = some outer) : A.over (wlc L) (aF L k0 p0) = gA (A.depth + 1) (A.units + 3) A.guards L outer := by
  obtain ⟨ha, dp, fr, gd, un⟩ := A
  obtain rfl : ha = none := hh
  obtain rfl : fr = some outer := hf
  rfl
theorem a_over0 {A : Around} (hh : A.handled = none) (hf : A.frames = some outer) : A.over (.func ancB (genv L)) [] = gA (A.depth + 1) (A.units + 3) A.guards L outer := by
  obtain ⟨ha, dp, fr, gd, un⟩ := A
  obtain rfl : ha = none := hh
  obtain rfl : fr = some outer := hf
  rfl
theorem a_loop (k0 : Result → Sem PySem.Fin) (p0 : Pos) (hk0 : ∀ A Φ s, Φ (.ret (.ok (.ret .none))) s → SegE (model pg w) A Φ (.func ancB (genv L)) (k0 (.ok .next)) [] s) :
    ∀ n, GGo w L (GGoes w L n) id (fun A Φ s => SegE (model pg w) A Φ (wlc L) ((model pg w).den (wlc L)) (aF L k0 p0) s) := by
  intro n
  induction n with
  | zero =>
    intro A outer base g m s P t news loose mean mg mb hh hf B hL F N X S1 T hm hP hd hu
    refine sge_whileLoop ?_
    rw [a_over hh hf]
    refine a_test F X T hm (Nat.le_trans hP (by decide)) fun tk' => ?_
    by_cases hb : ((((Txt.rstripChars P (Str.ofString "/")).length : Int) != 0) = true)
    · rw [if_pos hb]
      intro H
      refine sge_execs_cons (sge_Yield rfl ?_)
      rw [a_over hh hf]
      refine wpAny_Name (wpAny_loadName_local rfl rfl F.ns hm ?_) (by decide)
      intro l p k hk
      exact ⟨s.heap, tk', t, m, rfl, hm, F, N, (if_pos hb).mpr ⟨rfl, ⟨t, rfl⟩, trivial⟩⟩
    · rw [if_neg hb]
      intro H
      refine sg_leaf (.ok .next) (hk0 _ _ _ ⟨s.heap, tk', t, m, rfl, hm, F, N, (if_neg hb).mpr rfl⟩)
  | succ n ih =>
    intro A outer base g m s P t news loose mean mg mb hh hf B hL F N X S1 T hm hP hd hu
    refine sge_whileLoop ?_
    rw [a_over hh hf]
    refine a_test F X T hm (Nat.le_trans hP (by decide)) fun tk' => ?_
    by_cases hb : ((((Txt.rstripChars P (Str.ofString "/")).length : Int) != 0) = true)
    · rw [if_pos hb]
      intro H
      refine sge_execs_cons (sge_Yield rfl ?_)
      rw [a_over hh hf]
      refine wpAny_Name (wpAny_loadName_local rfl rfl F.ns hm ?_) (by decide)
      intro l p k hk
      refine ⟨s.heap, tk', t, m, rfl, hm, F, N, ?_⟩
      refine (if_pos hb).mpr ⟨rfl, ⟨t, rfl⟩, ?_⟩
      refine ggoes_succ.mpr ?_
      intro A outer base g m s P t news loose mean mg mb hh hf B hL F N X S1 T hm hP hd hu
      refine hk _ _ _ ?_
      refine sge_execs_cons (sg_wrap ?_)
      rw [a_over hh hf]
      refine a_split (dp := A.depth + 1) (un := A.units + 3) (gd := A.guards) (base := base) (E := fun x s' => _) ⟨rfl, (B _ F.keep fun p hp => (N p hp).1).1, .cons (by show ScopeKind.function ≠ .module; decide) rfl F.ns hL (B _ F.keep fun p hp => (N p hp).1).2⟩ F N X S1 T hm hP (by omega) (by omega) fun x y h' tk' t' m' hxy hm' F' N' => ?_
      show SegE _ _ _ _ (.pure (.again (wlc L))) _ _
      have hx : (splitF P).1 = x := by rw [hxy]
      subst hx
      refine sg_again rfl (ih A outer base g m' { s with heap := h', toks := tk' } _ t' news loose mean mg mb hh hf B hL F' N' X S1 T hm' (Nat.le_trans (split_len P) hP) hd hu)
    · rw [if_neg hb]
      intro H
      refine sg_leaf (.ok .next) (hk0 _ _ _ ⟨s.heap, tk', t, m, rfl, hm, F, N, (if_neg hb).mpr rfl⟩)
end
end Mine
end
section
open PySem PySem.W PyProof.Rows
set_option maxRecDepth 100000
set_option maxHeartbeats 4000000
namespace Mine
theorem sge_func {prog : Program} {w : World} {A : Around} {Φ : End → Shared → Prop} {fs : List Frame} {s : Shared} {env : Env} {body : List Stmt}
    (h : ∀ H, SegE (model prog w) A Φ (.func body env) ((execs body env).wrap (fun f => .pure (.done (.ret (match f with | .ret v => v | _ => .none)))) H id id) fs s) :
    SegE (model prog w) A Φ (.func body env) ((model prog w).den (.func body env)) fs s := by
  show SegE _ A Φ _ (.point [] fun _ => ((execs body env).onRaise (leaving env)) >>= _) fs s
  refine sg_point ?_
  rw [Sem.onRaise_eq_wrap, Sem.bind_eq_wrap', Sem.wrap_wrap]
  rw [Sem.wrap_congr (execs body env) _ _ (K' := fun f => .pure (.done (.ret (match f with | .ret v => v | _ => .none)))) (fun f => by cases f <;> rfl) (fun e => rfl)]
  exact h _
section
variable {w : World} {L : Addr}
theorem a_fresh (n : Nat) : GGo w L (GGoes w L n) (fun P => Txt.rstripChars P (Str.ofString "/")) (fun A Φ s => SegE (model pg w) A Φ (.func ancB (genv L)) ((model pg w).den (.func ancB (genv L))) [] s) := by
  intro A outer base g m s P t news loose mean mg mb hh hf B hL F N X S1 T hm hP hd hu
  refine sge_func fun H => ?_
  refine sge_execs_cons (sg_wrap ?_)
  rw [a_over0 hh hf]
  refine a_init (E := fun x s' => _) F N X T hm (Nat.le_trans hP (by decide)) fun h' tk' t' m' hm' F' N' => ?_
  refine sge_execs_cons ?_
  refine sg_at (sg_call fun p => ?_)
  refine a_loop _ p ?_ n A outer base g m' { s with heap := h', toks := tk' } _ t' news loose mean mg mb hh hf B hL F' N' X S1 T hm' (Nat.le_trans (len_rstripChars _ _) hP) hd hu
  intro A Φ s hΦ
  exact sg_end (.ok (.ret .none)) hΦ
end
end Mine
end
section
open PySem PySem.W PyProof.Rows
set_option maxRecDepth 100000
set_option maxHeartbeats 4000000
namespace Mine
/-- a generator's state goes on, ending as Φ says -/
noncomputable def GenRun (M : Model) (A : Around) (Φ : End → Shared → Prop) (s : Shared) : GenState → Prop
  | .fresh c => SegE M A Φ c (M.den c) [] s
  | .suspended k _ c _ fs _ => SegE M A Φ c (k (.send .none)) fs s
  | _ => False
section
variable {prog : Program} {w : World} {A : Around} {E : Value → Shared → Prop} {s : Shared}
theorem next_gen {a : Addr} {g : Nat} {gs : GenState} {Φ : End → Shared → Prop} {Q : Option Value → Shared → Prop} (hh : A.handled = none)
    (hl : s.heap.NoLimit) (hroom : A.depth < recursionLimit)
    (hg : s.heap.IsGen a g) (hgs : s.gens[g]? = some gs)
    (hgo : GenRun (model prog w) A.in1 Φ (s.setGen g .running) gs)
    (hq : ∀ e s₁, Φ e s₁ → e.quiet = true)
    (hR : ∀ e s₁, Φ e s₁ → (∃ v, e.result = .yielded v ∧ Q (some v) (s₁.setGen g e.genState)) ∨ (e = .ret (.ok (.ret .none)) ∧ ∀ h', (∀ b o, s₁.heap.get? b = some o → h'.get? b = some o) → Q none { s₁.setGen g .finished with heap := h' })) :
    wpAny (model prog w) A (pyNext (.ref a)) Q E s := by
  unfold pyNext
  refine wpAny_bind (wpAny_attempt (wpAny_callSpecial?_slot (name := Str.ofString "__next__") hg.typeIs slot_gen_next
    (wpAny_call_entry slot_gen_next hg.typeIs entry_gen_next ?_ (args_gen_next _))))
  show wpAny _ _ (Builtin.Generator.genWake (.ref a) (.send .none)) _ _ s
  unfold Builtin.Generator.genWake
  refine wpAny_bind (wpAny_holding (wpAny_genNumber hg (wpAny_bind (wpAny_genState hgs ?_))))
  cases gs with
  | running => exact hgo.elim
  | finished => exact hgo.elim
  | _ =>
    refine wpAny_bind (wpAny_roomToWake hl hroom ?_)
    show wpAny _ _ (.resume g (.send .none) [] _) _ _ s
    refine wp_wake hgs (by first | exact ⟨rfl, hgo⟩ | exact hgo) hq (fun e s₁ he => ?_)
    rcases hR e s₁ he with ⟨v, hv, hQ⟩ | ⟨rfl, hQ⟩
    · rw [hv]
      exact wpAny_pure ⟨v, rfl, wpAny_pure hQ⟩
    · show wpAny _ _ (newExc (.type "StopIteration") [] >>= _) _ _ _
      refine wpAny_bind ?_
      simp only [newExc, newTuple]
      refine wpAny_bind (wpAny_newObj_type ?_ (by size_fits))
      refine wpAny_bind (m := firstArgMember _ _) (wpAny_of_eq (a := Value.none) (by first | rfl | (simp only [firstArgMember]; rfl)) ?_)
      refine wpAny_newObj_type ?_ (by size_fits)
      simp only [raiseNew]
      refine wpAny_bind (wpAny_bind (wpAny_handled ?_))
      rw [show A.in1.handled = none from hh]
      refine wpAny_throw ?_
      refine wpAny_bind (wpAny_isInstance (T := "StopIteration") (b := true) ⟨_, Heap.get?_push_size _ rfl, rfl⟩ isSubtype_stop ?_)
      exact wpAny_pure (hQ _ fun b o hb => Heap.get?_push_of_some _ (Heap.get?_push_of_some _ hb))
end
end Mine
end
section
open PySem PySem.W PyProof.Rows
set_option maxRecDepth 100000
set_option maxHeartbeats 4000000
namespace Mine
/-- the i-th thing that a run over P yields -/
noncomputable def pathAt (P : Str) : Nat → Str
  | 0 => Txt.rstripChars P (Str.ofString "/")
  | i + 1 => (splitF (pathAt P i)).1
noncomputable def pathBef (P : Str) : Nat → Str
  | 0 => P
  | i + 1 => pathAt P i
theorem pathAt_len (P : Str) : ∀ i, (pathAt P i).length ≤ P.length
  | 0 => len_rstripChars _ _
  | i + 1 => Nat.le_trans (split_len _) (pathAt_len P i)
theorem pathBef_len (P : Str) : ∀ i, (pathBef P i).length ≤ P.length
  | 0 => Nat.le_refl _
  | i + 1 => pathAt_len P i
/-- a run over P yields n things -/
noncomputable def Yields (P : Str) (n : Nat) : Prop := (∀ i, i < n → (((Txt.rstripChars (pathAt P i) (Str.ofString "/")).length : Int) != 0) = true) ∧ ¬ ((((Txt.rstripChars (pathAt P n) (Str.ofString "/")).length : Int) != 0) = true)
noncomputable def GSt (w : World) (L : Addr) (k : Nat) : Nat → GenState → Prop
  | 0 => fun gs => match gs with
    | .fresh c => GGo w L (GGoes w L k) (fun P => Txt.rstripChars P (Str.ofString "/")) (fun A Φ s => SegE (model pg w) A Φ c ((model pg w).den c) [] s)
    | _ => False
  | _ + 1 => fun gs => GGoes w L (k + 1) gs
theorem gst_zero {w : World} {L : Addr} {k : Nat} {c : Code} : GSt w L k 0 (.fresh c) = GGo w L (GGoes w L k) (fun P => Txt.rstripChars P (Str.ofString "/")) (fun A Φ s => SegE (model pg w) A Φ c ((model pg w).den c) [] s) := rfl
theorem gst_succ {w : World} {L : Addr} {n i : Nat} {k l c p fs cl} : GSt w L n (i + 1) (.suspended k l c p fs cl) = GGo w L (GGoes w L n) (fun P => (splitF P).1) (fun A Φ s => SegE (model pg w) A Φ c (k (.send .none)) fs s) := rfl
/-- the generator stands before its i-th thing -/
structure AncSt (w : World) (g : Heap) (P : Str) (D L : Addr) (gi n i : Nat) (s : Shared) : Prop where
  gen : s.heap.IsGen D gi
  fr : ∃ m t, Fr g L s.heap m ∧ m (Str.ofString "path") = some (.str (pathBef P i) t)
  st : ∃ gs, s.gens[gi]? = some gs ∧ GSt w L (n - i) i gs
/-- all that a heap holds beside g and L -/
noncomputable def allNews (g : Heap) (L : Addr) (h : Heap) : List (Addr × Obj) :=
  (List.range h.objs.size).filterMap fun b => if b = L then none else match g.get? b, h.get? b with
    | none, some o => some (b, o)
    | _, _ => none
theorem allNews_news (g : Heap) (L : Addr) (h : Heap) : News g L h (allNews g L h) := by
  rintro ⟨b, o⟩ hp
  obtain ⟨c, _, hc⟩ := List.mem_filterMap.mp hp
  split at hc
  · cases hc
  · rename_i hne
    split at hc
    · rename_i h1 h2
      cases hc
      exact ⟨h2, hne, h1⟩
    · cases hc
theorem allNews_keep {g h h' : Heap} {L : Addr} (hg : ∀ b o, g.get? b = some o → h.get? b = some o) (hk : ∀ b o, g.get? b = some o → h'.get? b = some o) (N : ∀ p ∈ allNews g L h, h'.get? p.1 = some p.2) :
    ∀ b o, b ≠ L → h.get? b = some o → h'.get? b = some o := by
  intro b o hb ho
  cases e : g.get? b with
  | some o' =>
    have h1 := hg b o' e
    rw [ho] at h1
    cases h1
    exact hk b o e
  | none =>
    refine N (b, o) (List.mem_filterMap.mpr ⟨b, List.mem_range.mpr (Heap.lt_size ho), ?_⟩)
    rw [if_neg hb, e, ho]
theorem frames_keep {base h h' : Heap} {L : Addr} (k : ∀ b o, b ≠ L → h.get? b = some o → h'.get? b = some o) : ∀ {l : List Env}, (∀ env ∈ l, env.frame ≠ some L) → h.FunFrames base l → h'.FunFrames base l
  | [], _, _ => trivial
  | env :: rest, hn, ⟨hk, ⟨L', o, hf, hb, ho, hd⟩, hr⟩ =>
    ⟨hk, ⟨L', o, hf, hb, k L' o (fun e => hn env (.head _) (e ▸ hf)) ho, hd⟩, frames_keep k (fun e he => hn e (.tail _ he)) hr⟩
theorem setGen_twice (s : Shared) (g : Nat) (x y : GenState) (h' : Heap) (tk' : Nat) : ({ s.setGen g x with heap := h', toks := tk' } : Shared).setGen g y = { s.setGen g y with heap := h', toks := tk' } := by
  simp only [Shared.setGen, Array.setIfInBounds_setIfInBounds]
section
variable {w : World} {A : Around} {outer : List Env} {base g : Heap} {P : Str} {D L : Addr} {gi n i : Nat} {s : Shared} {Q : Option Value → Shared → Prop} {E : Value → Shared → Prop} {loose : List Str} {mean : ExcName → Option Value} {mg mb : Str → Option Value}
theorem ggo_run {Nx : GenState → Prop} {F : Str → Str} {run : Around → (End → Shared → Prop) → Shared → Prop} (G : GGo w L Nx F run) {P₀ : Str} {t : Tok} {m : Str → Option Value}
    (hh : A.handled = none) (hf : A.frames = some outer) (B : Below A base outer s.heap) (hL : base.get? L = none) (hn : ∀ env ∈ outer, env.frame ≠ some L)
    (Fg : Fr g L s.heap m) (X : (hd.heap_39 w.params).In g) (S1 : Extra w g) (T : Top qv loose mean mg mb g) (hm : m (Str.ofString "path") = some (.str P₀ t)) (hP : P₀.length ≤ 4096)
    (hd : A.depth + 6 < recursionLimit) (hu : A.units + 40 < cLine) : run A (GTail w L Nx (F P₀) g (allNews g L s.heap) s) s := by
  refine G A outer base g m s P₀ t (allNews g L s.heap) loose mean mg mb hh hf (fun h' hk N => ?_) hL Fg (allNews_news _ _ _) X S1 T hm hP hd hu
  have k := allNews_keep Fg.keep hk N
  exact ⟨fun b o e => k b o (fun h => by rw [h, hL] at e; cases e) (B.stays b o e), frames_keep k hn B.frames⟩
theorem anc_next (hY : Yields P n) (hi : i ≤ n) (hP : P.length ≤ 4096) (hDL : D ≠ L)
    (hh : A.handled = none) (hf : A.frames = some outer) (B : Below A base outer s.heap) (hL : base.get? L = none) (hn : ∀ env ∈ outer, env.frame ≠ some L)
    (X : (hd.heap_39 w.params).In g) (S1 : Extra w g) (T : Top qv loose mean mg mb g)
    (hd : A.depth + 6 < recursionLimit) (hu : A.units + 41 < cLine) (St : AncSt w g P D L gi n i s)
    (item : i < n → ∀ t h' tk' gs', AncSt w g P D L gi n (i + 1) { s.setGen gi gs' with heap := h', toks := tk' } → GenOnlyQ gi s.gens (s.setGen gi gs').gens → (∀ b o, b ≠ L → s.heap.get? b = some o → h'.get? b = some o) →
      Q (some (.str (pathAt P i) t)) { s.setGen gi gs' with heap := h', toks := tk' })
    (done : i = n → ∀ h' tk', GenOnlyQ gi s.gens (s.setGen gi .finished).gens → (∀ b o, b ≠ L → s.heap.get? b = some o → h'.get? b = some o) → Q none { s.setGen gi .finished with heap := h', toks := tk' }) :
    wpAny (model pg w) A (pyNext (.ref D)) Q E s := by
  obtain ⟨hg, ⟨m, t, Fg, hm⟩, gs, hgs, hst⟩ := St
  have hPb := Nat.le_trans (pathBef_len P i) hP
  have key : GenRun (model pg w) A.in1 (GTail w L (GGoes w L (n - i)) (pathAt P i) g (allNews g L s.heap) (s.setGen gi .running)) (s.setGen gi .running) gs := by
    cases i with
    | zero =>
      cases gs with
      | fresh c => exact ggo_run (s := s.setGen gi .running) (gst_zero.mp hst) (A := A.in1) hh hf ⟨hf, B.stays, B.frames⟩ hL hn Fg X S1 T hm hPb hd (by show A.units + 1 + 40 < cLine; omega)
      | _ => exact hst.elim
    | succ i =>
      cases gs with
      | suspended k l c p fs cl => exact ggo_run (s := s.setGen gi .running) (gst_succ.mp hst) (A := A.in1) hh hf ⟨hf, B.stays, B.frames⟩ hL hn Fg X S1 T hm hPb hd (by show A.units + 1 + 40 < cLine; omega)
      | _ => exact hst.elim
  refine next_gen (Φ := GTail w L (GGoes w L (n - i)) (pathAt P i) g (allNews g L s.heap) (s.setGen gi .running)) hh (T.keeps Fg.keep).nolimit (by omega) hg hgs key ?_ ?_
  · rintro e s₁ ⟨h', tk', t', m', rfl, hm', F', N', hif⟩
    split at hif
    · exact hif.1
    · subst hif; rfl
  · rintro e s₁ ⟨h', tk', t', m', rfl, hm', F', N', hif⟩
    have k := allNews_keep Fg.keep F'.keep fun p hp => (N' p hp).1
    split at hif
    · rename_i ht
      obtain ⟨hq, ⟨tv, hv⟩, hnx⟩ := hif
      have hlt : i < n := by
        rcases Nat.lt_or_ge i n with h | h
        · exact h
        · obtain rfl : i = n := Nat.le_antisymm hi h
          exact absurd ht hY.2
      refine .inl ⟨_, hv, ?_⟩
      refine (setGen_twice s gi .running e.genState h' tk').symm ▸ ?_
      refine item hlt tv h' tk' e.genState ⟨?_, ⟨m', t', F', hm'⟩, ⟨e.genState, setGen_self hgs, ?_⟩⟩ ?_ k
      · let ⟨o, nm, qn, ho, r⟩ := hg; exact ⟨o, nm, qn, k D o hDL ho, r⟩
      · have hs : n - i = n - (i + 1) + 1 := by omega
        rw [hs] at hnx
        exact hnx
      · exact GenOnlyQ.of (GenOnly.setGen s gi _) (setGen_self hgs) (End.bare_of_quiet hq)
    · rename_i ht
      subst hif
      have hin : i = n := by
        rcases Nat.lt_or_ge i n with h | h
        · exact absurd (hY.1 i h) ht
        · exact Nat.le_antisymm hi h
      refine .inr ⟨rfl, fun h'' hk => ?_⟩
      refine (setGen_twice s gi .running .finished h' tk').symm ▸ ?_
      exact done hin h'' tk' (GenOnlyQ.of (GenOnly.setGen s gi _) (setGen_self hgs) rfl) fun b o hb ho => hk b o (k b o hb ho)
end
end Mine
end
section
open PySem PySem.W PyProof.Rows
set_option maxRecDepth 100000
set_option maxHeartbeats 4000000
namespace Mine
section
variable {prog : Program} {w : World} {A : Around} {E : Value → Shared → Prop} {s : Shared} {K : Frag} {p : Program} {loose : List Str} {mean : ExcName → Option Value} {mg mb : Str → Option Value} {Q : Value → Shared → Prop}
theorem gen_def {name qual : Str} {params : Arguments} {body : List Stmt} {scope : Scope} {dV kV doc pm cdv ct oc : Value} {an od : Option Addr} {osl : Array (Option Value)} {f : Addr} {pos : List Value} {binds : List (Str × Value)}
    (X : K.In s.heap) (T : Top p loose mean mg mb s.heap)
    (ho : K.lookup f = some ⟨oc, od, .func (fnOf name qual params body scope dV kV doc pm an cdv ct), osl⟩) (hcd : codeIn K cdv qual = true) (hroom : A.depth < recursionLimit)
    (hbind : BindsTo s (fnOf name qual params body scope dV kV doc pm an cdv ct) ⟨pos, []⟩ binds) (hloc : ∀ y ∈ binds, scope.names.lookup y.1 = some .local)
    (h : ∀ D h' tk', Fr s.heap s.heap.objs.size h' (fun y => binds.reverse.lookup y) → h'.IsGen D s.gens.size → D ≠ s.heap.objs.size → s.heap.get? D = none →
      Q (.ref D) { s with heap := h', toks := tk', gens := s.gens.push (.fresh (.func body (envOf qual scope s.heap.objs.size f cdv))) })
    (hco : scope.isCoroutine = false) (hgen : scope.isGenerator = true) (hk : scope.kind = .function)
    (hcell : ∀ x ∈ scope.names, x.2 ≠ .cell) : wpAny (model prog w) A (call (.ref f) pos) Q E s := by
  refine wpAny_call ?_
  refine codeAny_call_generator (fd := fnOf name qual params body scope dV kV doc pm an cdv ct) (body := body) hroom (X _ _ ho) rfl hco hgen rfl (codeRec_of X hcd) (hbind _ _ _ _ ?_)
  refine wpAny_newFunctionEnv hcell hloc (fun h₀ hns₀ hsb₀ => ⟨T.nolimit.fresh _ hsb₀, ?_⟩) hk
  have kp : ∀ b o, s.heap.get? b = some o → h₀.get? b = some o := fun b o e => hsb₀.extBut b o (Nat.ne_of_lt (Heap.lt_size e)) (Heap.get?_push_of_some _ e)
  have hlt : s.heap.objs.size < h₀.objs.size := hns₀.lt
  refine h _ _ _ ⟨hns₀.at' fun o e => Heap.get?_push_of_some _ e, fun b o e => Heap.get?_push_of_some _ (kp b o e), Nat.le_refl _⟩ ⟨_, _, _, Heap.get?_push_size _ rfl, rfl, rfl, rfl⟩ (Nat.ne_of_gt hlt) ?_
  cases e : s.heap.get? h₀.objs.size with
  | none => rfl
  | some o => exact absurd (Nat.lt_trans hlt (Heap.lt_size e)) (Nat.lt_irrefl _)
end
/-- _ancestry called: a generator stands -/
theorem anc_call {w : World} {A : Around} {P : Str} {tP : Tok} {n : Nat} {s : Shared} {Q E : Value → Shared → Prop} {loose : List Str} {mean : ExcName → Option Value} {mg mb : Str → Option Value}
    (X : (hd.heap_39 w.params).In s.heap) (T : Top qv loose mean mg mb s.heap) (hd : A.depth < recursionLimit)
    (h : ∀ D h' tk' gs', AncSt w s.heap P D s.heap.objs.size s.gens.size n 0 { s with heap := h', toks := tk', gens := s.gens.push gs' } → gs'.bare = true → D ≠ s.heap.objs.size → s.heap.get? D = none → (∀ b o, s.heap.get? b = some o → h'.get? b = some o) →
      Q (.ref D) { s with heap := h', toks := tk', gens := s.gens.push gs' }) :
    wpAny (model pg w) A (call (.ref 49) [.str P tP]) Q E s := by
  unfold pg
  revert X
  k_fill
  intro X
  k_dflt (refine' gen_def ?k3 ?k5 ?k6 ?k7 ?k8 ?k9 ?kB ?_ ?c2 ?c3 ?c4 ?c5; (case k3 => k_asm); (case k5 => k_asm); (case k6 => k_is); (case k7 => k_is); (case k8 => ktr_room); (case k9 => exact BindsTo.of_eq rfl); (case c5 => decide); (case kB => exact locs rfl); (case c2 => exact rfl); (case c3 => exact rfl); (case c4 => exact rfl))
  intro D h' tk' F' hg hD hn
  refine h D h' tk' _ ⟨hg, ⟨_, tP, F', ?_⟩, ⟨.fresh (.func ancB (genv s.heap.objs.size)), ?_, ?_⟩⟩ rfl hD hn F'.keep
  · rfl
  · exact Array.getElem?_push_size
  · exact gst_zero.mpr (a_fresh _)
end Mine
end
section
open PySem PySem.W PyProof.Rows
set_option maxRecDepth 100000
set_option maxHeartbeats 4000000
namespace Mine
theorem frames_ne {g base : Heap} {L : Addr} (hab : g.objs.size ≤ L) {l : List Env} (hl : g.FunFrames base l) (env : Env) (he : env ∈ l) : env.frame ≠ some L := fun hf => by
  obtain ⟨_, o, ho, _⟩ := hl.mem (List.mem_filterMap.mpr ⟨env, he, hf⟩)
  exact absurd (Nat.lt_of_lt_of_le (Heap.lt_size ho) hab) (Nat.lt_irrefl _)
/-- what stays the same while a generator made at g lives -/
structure AncC (w : World) (A : Around) (g : Heap) (P : Str) (D L : Addr) (n : Nat) : Prop where
  yields : Yields P n
  len : P.length ≤ 4096
  ne : D ≠ L
  hh : A.handled = none
  below : ∃ outer base, A.frames = some outer ∧ Below A base outer g
  X : (hd.heap_39 w.params).In g
  S1 : Extra w g
  T : ∃ loose mean mg mb, Top qv loose mean mg mb g
  hd : A.depth + 6 < recursionLimit
  hu : A.units + 41 < cLine
theorem AncC.in1 {w : World} {A : Around} {g : Heap} {P : Str} {D L : Addr} {n : Nat} (C : AncC w A g P D L n) (hu : A.units + 42 < cLine) : AncC w A.in1 g P D L n :=
  ⟨C.yields, C.len, C.ne, C.hh, C.below.imp fun _ h => h.imp fun _ h => ⟨h.1, h.2.stack, h.2.stays, h.2.frames⟩, C.X, C.S1, C.T, C.hd, by show A.units + 1 + 41 < cLine; omega⟩
section
variable {w : World} {A : Around} {g : Heap} {P : Str} {D L : Addr} {gi n i : Nat} {s : Shared} {Q : Option Value → Shared → Prop} {E : Value → Shared → Prop}
theorem AncC.next (C : AncC w A g P D L n) (hi : i ≤ n) (St : AncSt w g P D L gi n i s)
    (item : i < n → ∀ t h' tk' gs', AncSt w g P D L gi n (i + 1) { s.setGen gi gs' with heap := h', toks := tk' } → GenOnlyQ gi s.gens (s.setGen gi gs').gens → (∀ b o, b ≠ L → s.heap.get? b = some o → h'.get? b = some o) →
      Q (some (.str (pathAt P i) t)) { s.setGen gi gs' with heap := h', toks := tk' })
    (done : i = n → ∀ h' tk', GenOnlyQ gi s.gens (s.setGen gi .finished).gens → (∀ b o, b ≠ L → s.heap.get? b = some o → h'.get? b = some o) → Q none { s.setGen gi .finished with heap := h', toks := tk' }) :
    wpAny (model pg w) A (pyNext (.ref D)) Q E s := by
  obtain ⟨hY, hP, hDL, hh, ⟨outer, base, hf, B⟩, X, S1, ⟨loose, mean, mg, mb, T⟩, hd, hu⟩ := C
  obtain ⟨m, t, F, hm⟩ := St.fr
  have hL : base.get? L = none := by
    cases e : base.get? L with
    | none => rfl
    | some o => exact absurd (Nat.lt_of_lt_of_le (Heap.lt_size (B.stays _ _ e)) F.above) (Nat.lt_irrefl _)
  exact anc_next hY hi hP hDL hh hf ⟨hf, fun b o e => F.keep b o (B.stays b o e), B.frames.of_keeps fun b o e _ => ⟨o, F.keep b o e, rfl⟩⟩ hL (frames_ne F.above B.frames) X S1 T hd hu St item done
end
theorem AncSt.frame {w : World} {g : Heap} {P : Str} {D L : Addr} {gi n i : Nat} {s : Shared} (st : AncSt w g P D L gi n i s) {h' : Heap} {tk : Nat}
    (hk : ∀ b ∈ D :: L :: List.range g.objs.size, ∀ o, s.heap.get? b = some o → h'.get? b = some o) : AncSt w g P D L gi n i { s with heap := h', toks := tk } := by
  obtain ⟨⟨o, nm, qn, ho, r⟩, ⟨m, t, F, hm⟩, hs⟩ := st
  exact ⟨⟨o, nm, qn, hk D (.head _) o ho, r⟩, ⟨m, t, ⟨F.ns.at' fun o e => hk L (.tail _ (.head _)) o e, fun b o e => hk b (.tail _ (.tail _ (List.mem_range.mpr (Heap.lt_size e)))) o (F.keep b o e), F.above⟩, hm⟩, hs⟩
theorem AncC.walks {w : World} {A : Around} {g : Heap} {P : Str} {D L : Addr} {gi n : Nat} (C : AncC w A g P D L n) :
    WalksS pg w A D (D :: L :: List.range g.objs.size) [L] (GenOnlyQ gi) n (fun i v => ∃ t, v = .str (pathAt P i) t) (fun i s => i ≤ n ∧ AncSt w g P D L gi n i s) where
  sub := fun b hb => by rw [List.mem_singleton] at hb; subst hb; exact .tail _ (.head _)
  grefl := fun _ => .inl rfl
  gtrans := fun _ _ _ x y => x.trans y
  frame := fun i s h' tk st _ hk => ⟨st.1, st.2.frame hk⟩
  item := fun i s Q E hi st hQ => wpAny_with_toks (Nat.le_refl s.toks) (C.next st.1 st.2
    (fun _ t h' tk' gs' st' hG hk htk => hQ _ _ ⟨t, rfl⟩ ⟨hi, st'⟩ ⟨fun b o hb e => hk b o (fun h => hb (h ▸ .head _)) e, hG, rfl, rfl, htk⟩)
    (fun h => absurd hi (by omega)))
  done := fun s Q E st hQ => wpAny_with_toks (Nat.le_refl s.toks) (C.next st.1 st.2 (fun h => absurd h (Nat.lt_irrefl _))
    (fun _ h' tk' hG hk htk => hQ _ ⟨fun b o hb e => hk b o (fun h => hb (h ▸ .head _)) e, hG, rfl, rfl, htk⟩))
  self := fun _ _ _ _ st hQ => wpAny_pyIter_gen st.2.gen hQ
/-- list(_ancestry(..)) -/
theorem anc_list {w : World} {A : Around} {g : Heap} {P : Str} {D L : Addr} {gi n : Nat} {s : Shared} {Q E : Value → Shared → Prop} (C : AncC w A g P D L n) (hu : A.units + 45 < cLine) (hn : n ≤ sizeLine) (St : AncSt w g P D L gi n 0 s) (hg : D < s.heap.objs.size)
    (h : ∀ s' acc' c' N, Moved (N :: [L]) (GenOnlyQ gi) s s' → s.heap.get? N = none → s'.heap.get? N = some { cls := .type "list", dict := none, data := .seq acc' c', slots := #[] } → ItemsOf (fun i v => ∃ t, v = .str (pathAt P i) t) acc' n → Q (.ref N) s') :
    wpAny (model pg w) A (call (.type "list") [.ref D]) Q E s := by
  have C2 : AncC w A.in1.in1 g P D L n := (C.in1 (by omega)).in1 (by show A.units + 1 + 42 < cLine; omega)
  have hs : s.heap.get? s.heap.objs.size = none := by
    cases e : s.heap.get? s.heap.objs.size with
    | none => rfl
    | some o => exact absurd (Heap.lt_size e) (Nat.lt_irrefl _)
  obtain ⟨m, t, F, hm⟩ := St.fr
  refine call_list_gen (C2.walks (gi := gi)) (fun i s st => st.2.gen.typeIs) ⟨Nat.zero_le _, St⟩ (fun b hb => ?_) (.head _) (fun s' acc' c' hm hS hi => ?_) hn
  · rcases List.mem_cons.mp hb with rfl | hb
    · exact hg
    · rcases List.mem_cons.mp hb with rfl | hb
      · exact F.ns.lt
      · refine Nat.lt_of_lt_of_le (List.mem_range.mp hb) (Nat.le_trans F.above (Nat.le_of_lt F.ns.lt))
  · exact h s' acc' c' _ ⟨fun b o hb e => hm.heap b o hb (Heap.get?_push_of_some _ e), hm.gens, hm.drawn, hm.os, hm.toks⟩ hs hS hi
end Mine
end
section
open PySem PySem.W PyProof.Rows
set_option maxRecDepth 100000
set_option maxHeartbeats 4000000
namespace Mine
section
variable {prog : Program} {w : World} {A : Around} {E : Value → Shared → Prop} {env : Env} {s : Shared} {G : Array GenState → Array GenState → Prop}
theorem moved_heap {wr : List Addr} {s s' : Shared} (x : Moved wr G s s') {h' : Heap} {tk : Nat} (ht : s'.toks ≤ tk) (hk : ∀ b o, b ∉ wr → s'.heap.get? b = some o → h'.get? b = some o) : Moved wr G s { s' with heap := h', toks := tk } := x.then_heap ht hk
/-- the loop of a list comprehension with no tests over a walk that moves generators -/
theorem loopS {elt iter : PySem.Expr} {x : Str} {px : Pos} {scope : Scope} {pos : Pos} {I D : Addr} {fp wr : List Addr} {n : Nat} {P F : Nat → Value → Prop} {St : Nat → Shared → Prop} {R : Result → Shared → Prop}
    {cenv : Env} {m : Str → Option Value} (W : WalksS prog w A I fp wr G n P St) (hsz : n ≤ sizeLine)
    (hx : cenv.kindOf x = some .local) (hp : (cenv.scope.kind == .class || (cenv.scope.kind == .module && cenv.locals != cenv.globals)) = false)
    (hDC : D ≠ cenv.locals) (hDf : D ∉ fp) (hCf : cenv.locals ∉ fp)
    (hst : St 0 s) (hacc : s.heap.PlainList D #[]) (hn : s.heap.Ns cenv.locals m)
    (helt : ∀ i v s₂ m₂, i < n → P i v → s₂.heap.Ns cenv.locals m₂ → m₂ x = some v → Moved (cenv.locals :: D :: wr) G s s₂ →
      wpAny (model prog w) A (eval elt cenv) (fun y s₃ => F i y ∧ Keeps s₂ s₃) (notedBy (model prog w) A cenv fun e s' => R (.error e) s') s₂)
    (hR : ∀ s' m' ys, s'.heap.Ns cenv.locals m' → s'.heap.PlainList D ys → ItemsOf F ys n → Moved (cenv.locals :: D :: wr) G s s' → R (.ok .next) s') :
    codeAny (model prog w) A (.compLoop (.ListComp elt [⟨.Name x px, iter, [], 0⟩] scope pos) 0 (.ref I) (.ref D) cenv) R s := by
  have hCw : cenv.locals ∉ wr := fun h => hCf (W.sub _ h)
  have hDw : D ∉ wr := fun h => hDf (W.sub _ h)
  have sub : ∀ b ∈ wr, b ∈ cenv.locals :: D :: wr := fun b hb => .tail _ (.tail _ hb)
  refine codeAny_compLoop_tests (fun k s' => ∃ i m' ys, i ≤ n ∧ k = n - i ∧ St i s' ∧ s'.heap.PlainList D ys ∧ s'.heap.Ns cenv.locals m' ∧ ItemsOf F ys i ∧ Moved (cenv.locals :: D :: wr) G s s') ?_ n
    ⟨0, m, #[], Nat.zero_le _, rfl, hst, hacc, hn, ItemsOf.nil F, Moved.refl W.grefl⟩
  rintro k s' ⟨i, m', ys, hi, rfl, hst', hacc', hn', hF, hM⟩
  rcases Nat.lt_or_ge i n with hlt | hge
  · refine W.item i s' _ _ hlt hst' fun v s₁ hPv hst₁ hM₁ => ?_
    refine wpAny_assign_Name (wpAny_storeName_local hx (hn'.at' fun o e => hM₁.heap _ o hCw e) (fun h₂ hn₂ hs₂ => ?_) hp)
    have ne₂ : ∀ b o, b ≠ cenv.locals → s₁.heap.get? b = some o → h₂.get? b = some o := fun b o hb e => hs₂.extBut b o hb e
    show wpAny _ _ (pure true) _ _ _
    refine wpAny_pure ?_
    rw [if_pos rfl]
    have hM₂ : Moved (cenv.locals :: D :: wr) G s { s₁ with heap := h₂, toks := s₁.toks + 1 } :=
      moved_heap (hM.trans W.gtrans (hM₁.mono sub)) (Nat.le_succ _) fun b o hb e => ne₂ b o (fun h => hb (h ▸ .head _)) e
    have hst₂ : St (i + 1) { s₁ with heap := h₂, toks := s₁.toks + 1 } := W.frame _ _ _ _ hst₁ (Nat.le_succ _) fun b hb o e => ne₂ b o (fun h => hCf (h ▸ hb)) e
    refine wpAny_mono (wpAny_toks_of (Nat.le_refl (s₁.toks + 1)) (helt i v _ _ hlt hPv hn₂ (if_pos rfl) hM₂)) (fun y s₃ h₃ => ?_) fun _ _ h => h.2
    obtain ⟨htk, hFy, h₃, tk₃, rfl, hk₃⟩ := h₃
    have hys : ys.size ≤ sizeLine := by rw [hF.1]; exact Nat.le_trans hi hsz
    refine wpAny_list_append_plain (hsz := hys) (hacc'.at fun o e => hk₃ _ o (ne₂ D o hDC (hM₁.heap _ o hDw e))) fun h₄ hl₄ hs₄ => ?_
    have ne₄ : ∀ b o, b ≠ D → h₂.get? b = some o → h₄.get? b = some o := fun b o hb e => hs₄.extBut b o hb (hk₃ b o e)
    refine ⟨n - (i + 1), by omega, i + 1, _, ys.push y, hlt, rfl, W.frame (i + 1) { s₁ with heap := h₂, toks := s₁.toks + 1 } h₄ tk₃ hst₂ htk fun b hb o e => ne₄ b o (fun h => hDf (h ▸ hb)) e, hl₄, hn₂.at' fun o e => ne₄ _ o (Ne.symm hDC) e, hF.push hFy, ?_⟩
    exact moved_heap hM₂ htk fun b o hb e => ne₄ b o (fun h => hb (h ▸ .tail _ (.head _))) e
  · obtain rfl : i = n := Nat.le_antisymm hi hge
    refine W.done s' _ _ hst' fun s₁ hM₁ => ?_
    exact hR s₁ m' ys (hn'.at' fun o e => hM₁.heap _ o hCw e) (hacc'.at fun o e => hM₁.heap _ o hDw e) hF (hM.trans W.gtrans (hM₁.mono sub))
/-- a list comprehension with no tests over a walk that moves generators -/
theorem compS {elt iter : PySem.Expr} {x : Str} {px : Pos} {scope : Scope} {cl : List (Str × Addr)} {pos : Pos} {Q : Value → Shared → Prop} (F : Nat → Value → Prop)
    (hclos : closureFor scope env = pure cl) (hcell : ∀ y ∈ scope.names, y.2 ≠ .cell) (hkind : scope.kind = .function)
    (hnames : ∀ y ∈ scope.names, y.2 = .local → scope.names.lookup y.1 = some .local) (hx : scope.names.lookup x = some .local)
    (h : wpAny (model prog w) A (eval iter env) (fun xv s₁ => wpAny (model prog w) A (pyIter xv) (fun it s₂ => ∃ I fp wr n P St, it = .ref I ∧ WalksS prog w A I fp wr G n P St ∧ n ≤ sizeLine ∧ St 0 s₂ ∧ (∀ b ∈ fp, b < s₂.heap.objs.size) ∧
      (∀ C i v s₃ m₃ E', s₂.heap.objs.size ≤ C → i < n → P i v → s₃.heap.Ns C m₃ → m₃ x = some v → (∀ b o, b ∉ wr → s₂.heap.get? b = some o → s₃.heap.get? b = some o) →
        wpAny (model prog w) A (eval elt (compEnvC scope cl C env)) (fun y s₄ => F i y ∧ Keeps s₃ s₄) E' s₃) ∧
      (∀ D s' ys, s₂.heap.get? D = none → s'.heap.PlainList D ys → ItemsOf F ys n → Moved wr G s₂ s' → Q (.ref D) s')) E s₁) E s)
    (hs : ∀ x, foldedSetIterable iter env x = pure x := by intro _; rfl) :
    wpAny (model prog w) A (eval (.ListComp elt [⟨.Name x px, iter, [], 0⟩] scope pos) env) Q E s := by
  rw [eval_ListComp]
  refine wpAny_comprehension_free (use := none) rfl hs hclos hkind hnames (wpAny_mono h (fun xv s₁ h₁ => wpAny_mono h₁ (fun it s₂ h₂ => ?_) fun _ _ e => e) fun _ _ e => e)
  obtain ⟨I, fp, wr, n, P, St, rfl, W, hsz, hst, hfp, hq, hQ⟩ := h₂
  refine wpAny_newObj_type (wpAny_newFunctionEnv hcell (by intro y hy; simp at hy) (fun h₁ hns₁ hsb₁ => ?_) hkind)
  dsimp only at hns₁ hsb₁ ⊢
  generalize hH2 : s₂.heap.push { cls := .type "list", dict := none, data := .seq ([] : List Value).toArray } = H2 at hns₁ hsb₁ ⊢
  have hC : H2.objs.size = s₂.heap.objs.size + 1 := by rw [← hH2, Heap.size_push]
  have hDC : s₂.heap.objs.size ≠ H2.objs.size := by rw [hC]; exact Nat.ne_of_lt (Nat.lt_succ_self _)
  have hCle : s₂.heap.objs.size ≤ H2.objs.size := by rw [hC]; exact Nat.le_succ _
  have lo : ∀ b, b < s₂.heap.objs.size → b ≠ H2.objs.size := fun b hb => by rw [hC]; exact Nat.ne_of_lt (Nat.lt_succ_of_lt hb)
  have hDf : s₂.heap.objs.size ∉ fp := fun hm => Nat.lt_irrefl _ (hfp _ hm)
  have hCf : H2.objs.size ∉ fp := fun hm => by have := hfp _ hm; rw [hC] at this; exact Nat.lt_irrefl _ (Nat.lt_of_succ_lt this)
  have old : ∀ b o, s₂.heap.get? b = some o → h₁.get? b = some o := fun b o e => hsb₁.extBut b o (lo b (Heap.lt_size e)) (Heap.get?_push_of_some _ (hH2 ▸ Heap.get?_push_of_some _ e))
  have hacc : h₁.PlainList s₂.heap.objs.size #[] := ⟨_, hsb₁.extBut _ _ hDC (Heap.get?_push_of_some _ (hH2 ▸ Heap.get?_push_size _ rfl))⟩
  have hst₁ : ∀ tk, s₂.toks ≤ tk → St 0 { s₂ with heap := h₁, toks := tk } := fun tk ht => W.frame _ _ _ _ hst ht fun b _ o e => old b o e
  have fresh : ∀ a, s₂.heap.objs.size ≤ a → s₂.heap.get? a = none := fun a ha => by
    cases e : s₂.heap.get? a with
    | none => rfl
    | some o' => exact absurd (Heap.lt_size e) (Nat.not_lt.mpr ha)
  have dn : ∀ {tk s'}, s₂.toks ≤ tk → Moved (H2.objs.size :: s₂.heap.objs.size :: wr) G { s₂ with heap := h₁, toks := tk } s' → Moved wr G s₂ s' := fun ht x =>
    ⟨fun b o hb e => x.heap b o (fun hm => by
      rcases List.mem_cons.mp hm with e1 | hm
      · exact lo b (Heap.lt_size e) e1
      · rcases List.mem_cons.mp hm with e1 | hm
        · exact absurd (Heap.lt_size e) (by rw [e1]; exact Nat.lt_irrefl _)
        · exact hb hm) (old b o e), x.gens, x.drawn, x.os, Nat.le_trans ht x.toks⟩
  have loop : ∀ s₃ : Shared, s₃ = { s₂ with heap := h₁, toks := s₂.toks + ([] : List (Str × Value)).length } →
      codeAny (model prog w) A (.compLoop (.ListComp elt [⟨.Name x px, iter, [], 0⟩] scope pos) 0 (.ref I) (.ref s₂.heap.objs.size) (compEnvC scope cl H2.objs.size env))
        (compPost (model prog w) A E none Q (.ref s₂.heap.objs.size) H2.objs.size) s₃ := by
    rintro s₃ rfl
    refine loopS (F := F) (cenv := compEnvC scope cl H2.objs.size env) W hsz (lookup_relabel_local hx) (by simp [compEnvC, relabel, hkind]) hDC hDf hCf (hst₁ _ (Nat.le_refl _)) hacc hns₁
      (fun i v s₃ m₃ hi hv hn hm hM => hq _ i v s₃ m₃ _ hCle hi hv hn hm fun b o hb e => (dn (Nat.le_refl _) hM).heap b o hb e) fun s' m' ys hn hl hF hM => ?_
    have hM' := dn (Nat.le_refl _) hM
    refine ⟨m', hn, fun h'' hs'' => hQ _ _ ys (fresh _ (Nat.le_refl _)) (hl.at fun o e => hs''.extBut _ o hDC e) hF ?_⟩
    exact ⟨fun b o hb e => hs''.extBut b o (lo b (Heap.lt_size e)) (hM'.heap b o hb e), hM'.gens, hM'.drawn, hM'.os, hM'.toks⟩
  exact codeAny_compStart_list (loop _ rfl) (W.self 0 _ _ _ (hst₁ _ (Nat.le_refl _)) (loop _ rfl))
end
end Mine
end
section
open PySem PySem.W PyProof.Rows
set_option maxRecDepth 100000
set_option maxHeartbeats 4000000
namespace Mine
noncomputable def lawRecOf {q : Program} {lo : List Str} {XP : (Str → Option Value) → Heap → Prop} {says : World → Heap → Prop} {r : RowW} {d : DefRec} {t : List (Str × PySem.Expr)} {f : Value → List Value → Sem Value} {x : Prop} (_ : WalkO q lo XP says r d t f → x) : DefRec := d
noncomputable def lawRec : DefRec := lawRecOf Mine.hd
noncomputable abbrev lenv (h₀ : Heap) (fa : Addr) (cd : Value) : Env := envOfC lawRec.name lawRec.scope h₀.objs.size fa cd
noncomputable abbrev lA (h₀ : Heap) (fa : Addr) (cd : Value) : Around := callerA.deeper (lenv h₀ fa cd)
/-- the cells of the law's frame -/
structure Cells2 (L : Addr) (pv cv : Option Value) (news rest : List (Addr × Obj)) : Prop where
  ex : ∃ oc op : Obj, news = rest ++ [(L + 1 + 1, oc), (L + 1, op)] ∧ oc.data = .cell cv ∧ op.data = .cell pv
section
variable {w : World} {h₀ : Heap} {fa : Addr} {cd : Value} {m : Str → Option Value} {s : Shared} {Q : Flow → Shared → Prop} {E : Value → Shared → Prop} {loose : List Str} {mean : ExcName → Option Value} {mg mb : Str → Option Value}
noncomputable abbrev nil0 : Stmt := .Pass ⟨0, 0, 0, 0⟩
end
end Mine
end
section
open PySem PySem.W PyProof.Rows
set_option maxRecDepth 100000
set_option maxHeartbeats 4000000
namespace Mine
/-- a text's signs -/
noncomputable abbrev cl (x : Str) : List Nat := x.cps.toList
theorem cl_inj {x y : Str} (h : cl x = cl y) : x = y := by
  cases x; cases y; congr 1; exact Array.ext' h
theorem cl_len (x : Str) : x.length = (cl x).length := by
  show x.cps.size = _; simp [cl]
theorem cl_append (x y : Str) : cl (x ++ y) = cl x ++ cl y := by
  show (Str.append x y).cps.toList = _
  unfold Str.append
  simp [cl]
theorem fold_rep (c : Array Nat) : ∀ (n : Nat) (a : Array Nat), (List.foldl (fun x1 x2 => x1 ++ x2) a (List.replicate n c)).toList = a.toList ++ (List.replicate n c.toList).flatten
  | 0, a => by simp
  | n + 1, a => by
    rw [List.replicate_succ, List.foldl_cons, fold_rep c n, Array.toList_append, List.replicate_succ, List.flatten_cons, List.append_assoc]
theorem flat_rep (c : Nat) : ∀ n, (List.replicate n [c]).flatten = List.replicate n c
  | 0 => rfl
  | n + 1 => by rw [List.replicate_succ, List.flatten_cons, flat_rep c n, List.replicate_succ]; rfl
theorem cl_mul {c : Nat} {x : Str} (hx : cl x = [c]) (n : Int) : cl (Txt.mul x n) = List.replicate n.toNat c := by
  unfold Txt.mul
  split
  · rename_i h
    have : n.toNat = 0 := by omega
    rw [this]; rfl
  · rename_i h
    split
    · rename_i h2
      have hl : x.length = 1 := by rw [cl_len, hx]; rfl
      rw [hl] at h2
      have h3 : n = 1 := by simpa using h2
      rw [h3, hx]; rfl
    · show (List.foldl (fun x1 x2 => x1 ++ x2) #[] (List.replicate n.toNat x.cps)).toList = _
      rw [fold_rep, show x.cps.toList = [c] from hx, flat_rep]
      simp
theorem fmod_rng (a : Int) {k : Int} (h : 0 < k) : 0 ≤ a.fmod k ∧ a.fmod k < k := ⟨Int.fmod_nonneg_of_pos a h, Int.fmod_lt_of_pos a h⟩
/-- the slashes ahead -/
noncomputable def slash0 (ns : List Int) : Int := match ns with
  | [] => 0
  | n :: _ => (n.fdiv 5).fmod 3
theorem slash0_rng (ns : List Int) : 0 ≤ slash0 ns ∧ slash0 ns < 3 := by
  cases ns with
  | nil => decide
  | cons n _ => exact fmod_rng _ (by decide)
theorem repl0 (k : Int) (h0 : 0 ≤ k) (h1 : k < 3) (x : Str) (hx : cl x = List.replicate k.toNat 47 ++ [80]) : cl (Txt.replace x (Str.ofString "P") (Str.ofString "p")) = List.replicate k.toNat 47 ++ [112] := by
  have : k = 0 ∨ k = 1 ∨ k = 2 := by omega
  rcases this with rfl | rfl | rfl
  · obtain rfl : x = ⟨#[80]⟩ := cl_inj hx
    decide +kernel
  · obtain rfl : x = ⟨#[47, 80]⟩ := cl_inj hx
    decide +kernel
  · obtain rfl : x = ⟨#[47, 47, 80]⟩ := cl_inj hx
    decide +kernel
end Mine
end
section
theorem Mine.begins_L3 : True := by
  w_top off
  trivial
open PySem PySem.W PyProof.Rows
set_option maxRecDepth 100000
set_option maxHeartbeats 4000000
namespace Mine
noncomputable def numsOf (xs : List Int) : List Int := (xs.take 16).map fun k => k.fmod 1000000
section
variable {w : World} {h₀ : Heap} {fa : Addr} {cd : Value} {m : Str → Option Value} {s : Shared} {Q : Flow → Shared → Prop} {E : Value → Shared → Prop} {loose : List Str} {mean : ExcName → Option Value} {mg mb : Str → Option Value} {oc op : Obj} {cv pv : Option Value}
theorem st0 {a : Addr} {vs : List Value} {xs : List Int} (K0 : Below callerA h₀ [] h₀) (X : (hd.heap_39 w.params).In h₀) (S1 : Extra w h₀) (T : Top qv loose mean mg mb h₀)
    (hL : h₀.IsList a vs.toArray) (hI : IntsAre vs xs) (hlen : ¬ ((63 : Nat) : Int) < (xs.length : Int))
    (F : Fr h₀ h₀.objs.size s.heap m) (hm : m (Str.ofString "script") = some (.ref a))
    (N : News h₀ h₀.objs.size s.heap [(h₀.objs.size + 1 + 1, oc), (h₀.objs.size + 1, op)])
    (ret : ∀ D ys h' tk' m', m' (Str.ofString "numbers") = some (.ref D) → Fr h₀ h₀.objs.size h' m' → News h₀ h₀.objs.size h' [(D, LCg.lst ys), (h₀.objs.size + 1 + 1, oc), (h₀.objs.size + 1, op)] → IntsAre ys (numsOf xs) → ys.length = (numsOf xs).length → Q .next { s with heap := h', toks := tk' }) :
    wpAny (model pg w) (lA h₀ fa cd) (exec (lawRec.body.headD nil0) (lenv h₀ fa cd)) Q E s := by
  unfold pg
  revert X
  k_fill
  intro X
  rw [put_same hm] at F
  clear hm
  unfold lA lenv lawRec lawRecOf
  dsimp only [List.tail_cons, List.headD_cons]
  k_steps
  all_goals (rename News _ _ _ _ => kN; refine' ret _ _ _ _ _ ?a ?b (fun p hp => kN p (by rcases List.mem_cons.mp hp with rfl | hp; exact .head _; exact .tail _ (.tail _ hp))) ?c ?d; (case b => k_asm); (case c => assumption); (case d => assumption); (case a => exact if_pos rfl))
theorem st1 {D : Addr} {ys : List Value} {ns : List Int} (K0 : Below callerA h₀ [] h₀) (X : (hd.heap_39 w.params).In h₀) (S1 : Extra w h₀) (T : Top qv loose mean mg mb h₀)
    (hI : IntsAre ys ns) (hl : ys.length = ns.length) (hlen : ns.length ≤ 16)
    (F : Fr h₀ h₀.objs.size s.heap m) (hm : m (Str.ofString "numbers") = some (.ref D))
    (N : News h₀ h₀.objs.size s.heap [(D, LCg.lst ys), (h₀.objs.size + 1 + 1, oc), (h₀.objs.size + 1, op)])
    (ret : ∀ x t h' tk' m', m' (Str.ofString "numbers") = some (.ref D) → m' (Str.ofString "spelled") = some (.str x t) → Fr h₀ h₀.objs.size h' m' → News h₀ h₀.objs.size h' [(D, LCg.lst ys), (h₀.objs.size + 1 + 1, oc), (h₀.objs.size + 1, op)] →
      cl x = List.replicate (slash0 ns).toNat 47 ++ [80] → 1 ≤ tk' → Q .next { s with heap := h', toks := tk' }) :
    wpAny (model pg w) (lA h₀ fa cd) (exec (lawRec.body.tail.headD nil0) (lenv h₀ fa cd)) Q E s := by
  unfold pg
  revert X
  k_fill
  intro X
  rw [put_same hm] at F
  clear hm
  unfold lA lenv lawRec lawRecOf
  dsimp only [List.tail_cons, List.headD_cons]
  have hr := fmod_rng ((ns.getD (Int.toNat 0) 0).fdiv 5) (k := 3) (by decide)
  walk1
  walk1
  walk1
  walk1
  refine wpAny_with_toks (n := 1) (Nat.le_add_left _ _) ?_
  k_steps
  all_goals (refine' ret _ _ _ _ _ ?a ?b ?c ?d ?e ?f; (case c => k_asm); (case d => k_asm); (case f => first | assumption | (dsimp only at *; omega)); (case a => exact (if_neg (by decide)).trans (if_pos rfl)); (case b => (refine Eq.trans (if_pos rfl) ?_; exact rfl)); (case e => (cases ns; all_goals first | (rw [cl_append, cl_mul (c := 47) rfl]; rfl) | rfl | (exfalso; simp at *; done))))
theorem st2 {D : Addr} {ys : List Value} {x : Str} {tx : Tok} {a : Int} (K0 : Below callerA h₀ [] h₀) (X : (hd.heap_39 w.params).In h₀) (S1 : Extra w h₀) (T : Top qv loose mean mg mb h₀)
    (F : Fr h₀ h₀.objs.size s.heap m) (hm : m (Str.ofString "numbers") = some (.ref D)) (hm2 : m (Str.ofString "spelled") = some (.str x tx)) (hx : cl x = List.replicate a.toNat 47 ++ [80]) (ha : 0 ≤ a ∧ a < 3) (htk : 1 ≤ s.toks)
    (N : News h₀ h₀.objs.size s.heap [(D, LCg.lst ys), (h₀.objs.size + 1 + 1, oc), (h₀.objs.size + 1, op)]) (hc : oc.data = .cell cv) (hp : op.data = .cell pv)
    (ret : ∀ y t op' h' tk' m', m' (Str.ofString "numbers") = some (.ref D) → m' (Str.ofString "spelled") = some (.str x tx) → Fr h₀ h₀.objs.size h' m' → News h₀ h₀.objs.size h' [(D, LCg.lst ys), (h₀.objs.size + 1 + 1, oc), (h₀.objs.size + 1, op')] →
      op'.data = .cell (some (.str y t)) → cl y = List.replicate a.toNat 47 ++ [112] → Q .next { s with heap := h', toks := tk' }) :
    wpAny (model pg w) (lA h₀ fa cd) (exec (lawRec.body.tail.tail.headD nil0) (lenv h₀ fa cd)) Q E s := by
  have hxl : x.length ≤ 1048576 := by rw [cl_len, hx, List.length_append, List.length_replicate]; simp only [List.length_singleton]; omega
  unfold pg
  revert X
  k_fill
  intro X
  rw [put_same hm2, put_same hm] at F
  clear hm hm2
  unfold lA lenv lawRec lawRecOf
  dsimp only [List.tail_cons, List.headD_cons]
  k_steps
  refine SC.replaceW (by show @Ne Nat _ _; omega) (by show @Ne Nat _ _; omega) (by show @Ne Nat _ _; omega) (by decide) hxl (by decide) ?_
  intro t8 k8
  k_steps
  all_goals (refine' ret _ _ _ _ _ _ ?a ?b ?c ?d ?e (repl0 a ha.1 ha.2 x hx); (case c => assumption); (case d => assumption); (case e => assumption); (case a => exact (if_neg (by decide)).trans (if_pos rfl)); (case b => exact if_pos rfl))
theorem st3 {D : Addr} {ys : List Value} {x : Str} {tx : Tok} (K0 : Below callerA h₀ [] h₀) (X : (hd.heap_39 w.params).In h₀) (S1 : Extra w h₀) (T : Top qv loose mean mg mb h₀)
    (F : Fr h₀ h₀.objs.size s.heap m) (hm : m (Str.ofString "numbers") = some (.ref D)) (hm2 : m (Str.ofString "spelled") = some (.str x tx))
    (N : News h₀ h₀.objs.size s.heap [(D, LCg.lst ys), (h₀.objs.size + 1 + 1, oc), (h₀.objs.size + 1, op)]) (hc : oc.data = .cell cv) (hp : op.data = .cell pv)
    (ret : ∀ e h' tk' m', m' (Str.ofString "numbers") = some (.ref D) → m' (Str.ofString "spelled") = some (.str x tx) → m' (Str.ofString "ends") = some (.ref e) → Fr h₀ h₀.objs.size h' m' → News h₀ h₀.objs.size h' [(e, W.listOf #[] 0), (D, LCg.lst ys), (h₀.objs.size + 1 + 1, oc), (h₀.objs.size + 1, op)] → @Ne Nat D e → Q .next { s with heap := h', toks := tk' }) :
    wpAny (model pg w) (lA h₀ fa cd) (exec (lawRec.body.tail.tail.tail.headD nil0) (lenv h₀ fa cd)) Q E s := by
  unfold pg
  revert X
  k_fill
  intro X
  rw [put_same hm2, put_same hm] at F
  clear hm hm2
  unfold lA lenv lawRec lawRecOf
  dsimp only [List.tail_cons, List.headD_cons]
  k_steps
  all_goals (refine' ret _ _ _ _ ?a ?b ?c ?d ?e ?f; (case d => k_asm); (case e => k_asm); (case f => first | assumption | omega); (case a => exact (if_neg (by decide)).trans ((if_neg (by decide)).trans (if_pos rfl))); (case b => exact (if_neg (by decide)).trans (if_pos rfl)); (case c => exact if_pos rfl))
end
end Mine
end
section
open PySem PySem.W PyProof.Rows
set_option maxRecDepth 100000
set_option maxHeartbeats 4000000
namespace Mine
section
variable {prog : Program} {w : World} {A : Around} {E : Value → Shared → Prop} {s : Shared} {env : Env} {h₀ : Heap} {target : PySem.Expr} {body : List Stmt} {Q : Flow → Shared → Prop}
/-- what a turn of `for_list` leaves -/
noncomputable def LoopEnd (h₀ : Heap) (L : Addr) (own : List (Addr × Obj)) (keys : List Addr) (J : (Str → Option Value) → List (Addr × Obj) → Prop) (s₁ : Shared) (f : Flow) (s₃ : Shared) : Prop :=
  f = .next ∧ ∃ h' tk' m₂ news₂, s₃ = { s₁ with heap := h', toks := tk' } ∧ Fr h₀ L h' m₂ ∧ News h₀ L h' (own ++ news₂) ∧ news₂.map (·.1) = keys ∧ J m₂ news₂
/-- a for over a list that stands as a thing of the frame's own -/
theorem for_list {y : Str} {py pos : Pos} {m : Str → Option Value} {D : Addr} {vs : List Value} {lo : Obj} {k : Nat} {news : List (Addr × Obj)} (J : Nat → (Str → Option Value) → List (Addr × Obj) → Prop)
    (hh : A.handled = none) (F : Fr h₀ env.locals s.heap m) (hkk : env.scope.kind = .function) (hk : env.kindOf y = some .local) (hm : m y = some (.ref D)) (hlc : lo.cls = .type "list") (hld : lo.data = .seq vs.toArray k)
    (N : News h₀ env.locals s.heap ((D, lo) :: news)) (hD : ∀ p ∈ news, p.1 ≠ D) (h0 : J 0 m news)
    (step : ∀ i v m₁ news₁ s₁ I io, vs[i]? = some v → J i m₁ news₁ → news₁.map (·.1) = news.map (·.1) → Fr h₀ env.locals s₁.heap m₁ → News h₀ env.locals s₁.heap ((I, io) :: (D, lo) :: news₁) → (∀ p ∈ news₁, p.1 ≠ I) → I ≠ D →
      s₁.gens = s.gens → s₁.drawn = s.drawn → s₁.os = s.os →
      wpAny (model prog w) A (assign target env v) (fun _ s₂ => wpAny (model prog w) A (execs body env) (LoopEnd h₀ env.locals [(I, io), (D, lo)] (news.map (·.1)) (J (i + 1)) s₁) E s₂) E s₁)
    (done : ∀ h' tk' m' news', Fr h₀ env.locals h' m' → News h₀ env.locals h' ((D, lo) :: news') → J vs.length m' news' → Q .next { s with heap := h', toks := tk' })
    (hd : (y == ("__debug__" : Str)) = false) (hE : PassesOwn (model prog w) A env E) :
    wpAny (model prog w) A (exec (.For target (.Name y py) body [] pos) env) Q E s := by
  refine For_turns F ?_ (fun _ => rfl) hE
  refine wpAny_Name (wpAny_loadName_local hkk hk F.ns hm ?_) hd
  have hDg := (N _ (.head _)).1
  refine wpAny_pyIter_list (l := D) (items := vs.toArray) ⟨lo, hDg, hlc, k, hld⟩ ?_
  have hDI : D ≠ s.heap.objs.size := Nat.ne_of_lt (Heap.lt_size hDg)
  have hLI : env.locals ≠ s.heap.objs.size := Nat.ne_of_lt F.ns.lt
  have nw : ∀ {news₁ : List (Addr × Obj)}, news₁.map (·.1) = news.map (·.1) → ∀ p ∈ news₁, p.1 ≠ s.heap.objs.size ∧ p.1 ≠ D := fun he p hp => by
    have : p.1 ∈ news.map (·.1) := he ▸ List.mem_map_of_mem hp
    obtain ⟨q, hq, e⟩ := List.mem_map.mp this
    rw [← e]
    exact ⟨Nat.ne_of_lt (Heap.lt_size (N _ (.tail _ hq)).1), hD q hq⟩
  have hI0 : h₀.get? s.heap.objs.size = none := by
    cases e : h₀.get? s.heap.objs.size with
    | none => rfl
    | some o => exact absurd (Heap.lt_size (F.keep _ _ e)) (Nat.lt_irrefl _)
  refine ⟨s.heap.objs.size, [s.heap.objs.size, D], [s.heap.objs.size], vs.toArray.size, _, _, _, m, (D, lo) :: news, fun i m₁ n₁ => ∃ n', n₁ = (D, lo) :: n' ∧ J i m₁ n' ∧ n'.map (·.1) = news.map (·.1), rfl,
    KTurns.ofWalks (Walks.list hh s.heap.objs.size D hDI vs.toArray) (fun i v s Q E st q => letGo_listiter st.1 q), ?_, ?_, ?_, ?_, F.push _, ?_, ⟨news, rfl, h0, rfl⟩, ?_, ?_⟩
  · intro h
    rcases List.mem_cons.mp h with h | h
    · exact hLI h
    · exact (N _ (.head _)).2.1 (List.mem_singleton.mp h).symm
  · intro b hb
    rw [List.mem_singleton.mp hb]; exact hI0
  · intro p hp h
    rcases List.mem_cons.mp hp with rfl | hp
    · exact hDI (List.mem_singleton.mp h)
    · exact (nw rfl p hp).1 (List.mem_singleton.mp h)
  · exact ⟨⟨_, Heap.get?_push_size _ rfl, rfl, rfl⟩, ⟨lo, Heap.get?_push_of_some _ hDg, hlc, k, hld⟩⟩
  · exact fun p hp => ⟨Heap.get?_push_of_some _ (N p hp).1, (N p hp).2⟩
  · rintro i v m₁ news₁ h₁ tk₁ own hi hP ⟨n', rfl, hJ, he⟩ hnw hof hog hoo st F₁ N₁
    obtain ⟨io, hio, _⟩ := st.1
    have hIo := hoo s.heap.objs.size (.head _) hI0 io hio
    have N₂ : News h₀ env.locals h₁ ((s.heap.objs.size, io) :: (D, lo) :: n') := fun p hp => by
      rcases List.mem_cons.mp hp with rfl | hp
      · exact N₁ _ (List.mem_append_left _ hIo)
      · exact N₁ _ (List.mem_append_right _ hp)
    have hPv : vs[i]? = some v := by
      have h : vs.toArray[i]? = some v := hP
      simpa using h
    refine wpAny_mono (step i v m₁ n' { s with heap := h₁, toks := tk₁ } s.heap.objs.size io hPv hJ he F₁ N₂ (fun p hp => (nw he p hp).1) (Ne.symm hDI) rfl rfl rfl) (fun _ s₂ h₂ => wpAny_mono h₂ (fun f s₃ h₃ => ?_) fun _ _ e => e) fun _ _ e => e
    obtain ⟨rfl, h', tk', m₂, news₂, rfl, F₃, N₃, he₃, hJ₃⟩ := h₃
    refine LoopStepV.next ⟨rfl, h', tk', m₂, (D, lo) :: news₂, rfl, F₃, fun p hp => ?_, fun p hp h => ?_, ⟨news₂, rfl, hJ₃, he₃⟩⟩
    · rcases List.mem_append.mp hp with hp | hp
      · have h1 := hog p hp
        have h2 := hof p hp
        rcases List.mem_cons.mp h2 with e | h2
        · rw [e, hio] at h1
          have : p = (s.heap.objs.size, io) := Prod.ext e (Option.some.inj h1).symm
          rw [this]; exact N₃ _ (.head _)
        · have e := List.mem_singleton.mp h2
          rw [e, (N₂ _ (.tail _ (.head _))).1] at h1
          have : p = (D, lo) := Prod.ext e (Option.some.inj h1).symm
          rw [this]; exact N₃ _ (.tail _ (.head _))
      · exact N₃ _ (.tail _ hp)
    · rcases List.mem_cons.mp hp with rfl | hp
      · exact hDI (List.mem_singleton.mp h)
      · exact (nw he₃ p hp).1 (List.mem_singleton.mp h)
  · rintro h' tk m' news' F' N' _ ⟨n', rfl, hJ, he⟩
    exact done h' tk m' n' F' N' (by simpa using hJ)
end
end Mine
end
section
theorem Mine.begins_L5 : True := by
  w_top off
  trivial
open PySem PySem.W PyProof.Rows
set_option maxRecDepth 100000
set_option maxHeartbeats 4000000
namespace Mine
theorem sign_len {n : Int} {a b : Str} (h : signF n = (a, b)) : a.length ≤ 1 ∧ b.length ≤ 3 := by
  have hw : (Txt.slice (wordAt n) (some 1) none).length ≤ 3 := by
    have h0 : 0 ≤ (n.fdiv 6).fmod 12 := Int.fmod_nonneg_of_pos _ (by decide)
    have h1 : (n.fdiv 6).fmod 12 < 12 := Int.fmod_lt_of_pos _ (by decide)
    have h2 : ((n.fdiv 6).fmod 12).toNat < 12 := by omega
    unfold wordAt
    generalize ((n.fdiv 6).fmod 12).toNat = k at h2
    have h : ∀ k, k < 12 → (Txt.slice (wordsL.getD k Str.empty) (some 1) none).length ≤ 3 := by decide +kernel
    exact h k h2
  unfold signF at h
  split at h
  · cases h; exact ⟨Nat.le_refl _, by decide⟩
  split at h
  · cases h; exact ⟨Nat.le_refl _, (by decide : 1 ≤ 3)⟩
  split at h
  · cases h; exact ⟨Nat.le_refl _, (by decide : 1 ≤ 3)⟩
  split at h
  · cases h; exact ⟨Nat.le_refl _, (by decide : 1 ≤ 3)⟩
  · cases h; exact ⟨Nat.le_refl _, hw⟩
/-- one turn of the law's main loop: spelled, plain, ends -/
noncomputable def stepL (q : List Nat × List Nat × List Int) (n : Int) : List Nat × List Nat × List Int :=
  if n.fmod 6 = 0 then
    (q.1 ++ (List.replicate (1 + (n.fdiv 6).fmod 3).toNat 47 ++ [(65 + (n.fdiv 18).fmod 26).toNat]), q.2.1 ++ (List.replicate (1 + (n.fdiv 6).fmod 3).toNat 47 ++ [(97 + (n.fdiv 18).fmod 26).toNat]), q.2.2 ++ [(q.2.1.length : Int)])
  else (q.1 ++ cl (signF n).1, q.2.1 ++ cl (signF n).2, q.2.2)
noncomputable def initL (ns : List Int) : List Nat × List Nat × List Int := (List.replicate (slash0 ns).toNat 47 ++ [80], List.replicate (slash0 ns).toNat 47 ++ [112], [])
noncomputable def LJ (D L e : Addr) (oc : Obj) (ns : List Int) (i : Nat) (m : Str → Option Value) (news : List (Addr × Obj)) : Prop :=
  m (Str.ofString "numbers") = some (.ref D) ∧ ∃ x tx y ty op es k, m (Str.ofString "spelled") = some (.str x tx) ∧ m (Str.ofString "ends") = some (.ref e) ∧ news = [(e, W.listOf es.toArray k), (L + 1 + 1, oc), (L + 1, op)] ∧ op.data = .cell (some (.str y ty)) ∧
    (∃ zs, IntsAre es zs ∧ (ns.take i).foldl stepL (initL ns) = (cl x, cl y, zs)) ∧ x.length ≤ 4 + 4 * i ∧ y.length ≤ 4 + 4 * i ∧ es.length ≤ i
section
variable {w : World} {h₀ : Heap} {fa : Addr} {cd : Value} {m : Str → Option Value} {s : Shared} {Q : Flow → Shared → Prop} {E : Value → Shared → Prop} {loose : List Str} {mean : ExcName → Option Value} {mg mb : Str → Option Value} {oc op : Obj} {cv pv : Option Value}
theorem cl1 (c : Nat) : cl ⟨#[c]⟩ = [c] := rfl
theorem ints_snoc {vs : List Value} {ns : List Int} (h : IntsAre vs ns) (n : Int) (t : Tok) : IntsAre (vs ++ [.int n t]) (ns ++ [n]) := by
  induction h with
  | nil => exact .cons n t .nil
  | cons a u h ih => exact .cons a u ih
theorem fold_next {ns : List Int} {i : Nat} {n : Int} (hn : ns[i]? = some n) (q) : (ns.take (i + 1)).foldl stepL q = stepL ((ns.take i).foldl stepL q) n := by
  rw [List.take_add_one, hn]
  simp
theorem lj0 {D L e : Addr} {oc o' : Obj} {ns : List Int} {i k : Nat} {n : Int} {m' : Str → Option Value} {x y : Str} {es : List Value} {zs : List Int} {t1 t2 t3 : Tok}
    (hn : ns[i]? = some n) (h6 : n.fmod 6 = 0) (hz : IntsAre es zs) (hf : (ns.take i).foldl stepL (initL ns) = (cl x, cl y, zs)) (hx1 : x.length ≤ 4 + 4 * i) (hy1 : y.length ≤ 4 + 4 * i) (he1 : es.length ≤ i)
    (hm0 : m' (Str.ofString "numbers") = some (.ref D)) (hm1 : m' (Str.ofString "spelled") = some (.str (x ++ (Txt.mul (Str.ofString "/") (1 + (n.fdiv 6).fmod 3) ++ ⟨#[(65 + (n.fdiv 18).fmod 26).toNat]⟩)) t1)) (hm2 : m' (Str.ofString "ends") = some (.ref e))
    (hd : o'.data = .cell (some (.str (y ++ (Txt.mul (Str.ofString "/") (1 + (n.fdiv 6).fmod 3) ++ ⟨#[(97 + (n.fdiv 18).fmod 26).toNat]⟩)) t2))) :
    LJ D L e oc ns (i + 1) m' [(e, W.listOf (es.toArray.push (.int y.length t3)) (k + 1)), (L + 1 + 1, oc), (L + 1, o')] := by
  have r3 := fmod_rng (n.fdiv 6) (k := 3) (by decide)
  refine ⟨hm0, _, t1, _, t2, o', es ++ [.int y.length t3], k + 1, hm1, hm2, by rw [List.push_toArray], hd, ⟨zs ++ [(y.length : Int)], ints_snoc hz _ _, ?_⟩, ?_, ?_, by simpa using he1⟩
  · rw [fold_next hn, hf, stepL, if_pos h6]
    simp only [cl_append, cl_mul (c := 47) (show cl (Str.ofString "/") = [47] from rfl)]
    rw [cl_len y]
  · rw [cl_len] at hx1 ⊢
    simp only [cl_append, cl_mul (c := 47) (show cl (Str.ofString "/") = [47] from rfl), List.length_append, List.length_replicate, cl1, List.length_cons, List.length_nil]
    omega
  · rw [cl_len] at hy1 ⊢
    simp only [cl_append, cl_mul (c := 47) (show cl (Str.ofString "/") = [47] from rfl), List.length_append, List.length_replicate, cl1, List.length_cons, List.length_nil]
    omega
theorem lj1 {D L e : Addr} {oc o' : Obj} {ns : List Int} {i k : Nat} {n : Int} {m' : Str → Option Value} {x y a b : Str} {es : List Value} {zs : List Int} {t1 t2 : Tok}
    (hn : ns[i]? = some n) (h6 : ¬ n.fmod 6 = 0) (hs : signF n = (a, b)) (hz : IntsAre es zs) (hf : (ns.take i).foldl stepL (initL ns) = (cl x, cl y, zs)) (hx1 : x.length ≤ 4 + 4 * i) (hy1 : y.length ≤ 4 + 4 * i) (he1 : es.length ≤ i)
    (hm0 : m' (Str.ofString "numbers") = some (.ref D)) (hm1 : m' (Str.ofString "spelled") = some (.str (x ++ a) t1)) (hm2 : m' (Str.ofString "ends") = some (.ref e))
    (hd : o'.data = .cell (some (.str (y ++ b) t2))) :
    LJ D L e oc ns (i + 1) m' [(e, W.listOf es.toArray k), (L + 1 + 1, oc), (L + 1, o')] := by
  have hl := sign_len hs
  refine ⟨hm0, _, t1, _, t2, o', es, k, hm1, hm2, rfl, hd, ⟨zs, hz, ?_⟩, ?_, ?_, Nat.le_succ_of_le he1⟩
  · rw [fold_next hn, hf, stepL, if_neg h6, hs]
    simp only [cl_append]
  · rw [cl_len] at hx1 ⊢
    have h1 := cl_len a
    simp only [cl_append, List.length_append]
    omega
  · rw [cl_len] at hy1 ⊢
    have h1 := cl_len b
    simp only [cl_append, List.length_append]
    omega
theorem intsAre_at {vs : List Value} {ns : List Int} (h : IntsAre vs ns) : ∀ {i : Nat} {v : Value}, vs[i]? = some v → ∃ n t, ns[i]? = some n ∧ v = .int n t := by
  induction h with
  | nil => intro i v hv; simp at hv
  | cons n t h ih =>
    intro i v hv
    cases i with
    | zero => exact ⟨n, t, rfl, by simpa using hv.symm⟩
    | succ i => exact ih (by simpa using hv)
local macro_rules | `(tactic| walk_at "call ref") => `(tactic| (k_here; (with_reducible show wpAny _ _ (call (Value.ref 171) _) _ _ _); k_dflt (refine' PCl.useT (c_sign _ _ _ ?q1 ?q2 ?q3) ?k1 ?k2 ?k3 ?k4 ?k5 ?k6 ?k7 ?k8 ?k9 ?k10 ?k11 ?k12 ?_; (case k1 => k_asm); (case k2 => k_asm); (case k3 => k_asm); (case k4 => first | assumption | exact Extra.fr (by assumption) (by assumption)); (case k5 => k_asm); (case k6 => k_asm); (case k7 => exact rfl); (case k8 => exact rfl); (case k9 => exact rfl); (case k10 => first | exact rfl | assumption); (case k11 => ktr_room); (case k12 => ktr_units); (case q1 => omega); (case q2 => omega); (case q3 => omega)); intro D9 x9 y9 t9 u9 h9 tk9 P9 F9 N9 n9; (have L9 := sign_len P9); (try simp only [AllNe, and_true] at n9); (try dsimp only); (try k_fold)))
local macro_rules | `(tactic| walk_at "loadName") => `(tactic| (k_here; (with_reducible show wpAny _ _ (loadName _ (Str.ofString "plain")) _ _ _); k_dflt (refine' ldnCN ?n rfl ?m ?d ?_; (case n => k_asm); (case m => k_mem); (case d => assumption))))
theorem st4 {D e : Addr} {ys : List Value} {ns : List Int} {x y : Str} {tx ty : Tok} (K0 : Below callerA h₀ [] h₀) (X : (hd.heap_39 w.params).In h₀) (S1 : Extra w h₀) (T : Top qv loose mean mg mb h₀)
    (hI : IntsAre ys ns) (hl : ys.length = ns.length) (hlen : ns.length ≤ 16) (hns : ∀ n ∈ ns, 0 ≤ n ∧ n < 1000000)
    (F : Fr h₀ h₀.objs.size s.heap m) (hm : m (Str.ofString "numbers") = some (.ref D)) (hm2 : m (Str.ofString "spelled") = some (.str x tx)) (hm3 : m (Str.ofString "ends") = some (.ref e))
    (hx : cl x = (initL ns).1) (hy : cl y = (initL ns).2.1)
    (N : News h₀ h₀.objs.size s.heap [(e, W.listOf #[] 0), (D, LCg.lst ys), (h₀.objs.size + 1 + 1, oc), (h₀.objs.size + 1, op)]) (hne : @Ne Nat D e ∧ @Ne Nat D (h₀.objs.size + 1 + 1) ∧ @Ne Nat D (h₀.objs.size + 1)) (hne2 : @Ne Nat e (h₀.objs.size + 1 + 1) ∧ @Ne Nat e (h₀.objs.size + 1)) (hc : oc.data = .cell cv) (hp : op.data = .cell (some (.str y ty))) (hE : PassesOwn (model pg w) (lA h₀ fa cd) (lenv h₀ fa cd) E)
    (ret : ∀ h' tk' m' news', LJ D h₀.objs.size e oc ns ns.length m' news' → Fr h₀ h₀.objs.size h' m' → News h₀ h₀.objs.size h' ((D, LCg.lst ys) :: news') → Q .next { s with heap := h', toks := tk' }) :
    wpAny (model pg w) (lA h₀ fa cd) (exec (lawRec.body.tail.tail.tail.tail.headD nil0) (lenv h₀ fa cd)) Q E s := by
  unfold pg
  revert X
  k_fill
  intro X
  unfold lA lenv lawRec lawRecOf
  dsimp only [List.tail_cons, List.headD_cons]
  refine for_list (D := D) (vs := ys) (lo := LCg.lst ys) (k := ys.length) (news := [(e, W.listOf #[] 0), (h₀.objs.size + 1 + 1, oc), (h₀.objs.size + 1, op)]) (LJ D h₀.objs.size e oc ns) rfl F rfl rfl hm rfl rfl ?_ ?_ ?_ ?_ ?_ (by decide) hE
  · intro p hp
    rcases List.mem_cons.mp hp with rfl | hp
    · exact N _ (.tail _ (.head _))
    · rcases List.mem_cons.mp hp with rfl | hp
      · exact N _ (.head _)
      · exact N _ (.tail _ (.tail _ hp))
  · intro p hp
    rcases List.mem_cons.mp hp with rfl | hp
    · exact fun h => hne.1 h.symm
    · rcases List.mem_cons.mp hp with rfl | hp
      · exact fun h => hne.2.1 h.symm
      · rw [List.mem_singleton.mp hp]
        exact fun h => hne.2.2 h.symm
  · have l3 := slash0_rng ns
    refine ⟨hm, x, tx, y, ty, op, [], 0, hm2, hm3, rfl, hp, ⟨[], .nil, ?_⟩, ?_, ?_, Nat.le_refl _⟩
    · rw [List.take_zero, hx, hy]; rfl
    · rw [cl_len, hx]; simp only [initL, List.length_append, List.length_replicate, List.length_cons, List.length_nil]; omega
    · rw [cl_len, hy]; simp only [initL, List.length_append, List.length_replicate, List.length_cons, List.length_nil]; omega
  · rintro i v m₁ news₁ s₁ I io hv ⟨hm0, x, tx, y, ty, op, es, k, hm1, hm2, rfl, hp1, ⟨zs, hz, hf⟩, hx1, hy1, he1⟩ hkeys F₁ N₁ hI1 hID hg hdr hos
    obtain ⟨n, tn, hn, rfl⟩ := intsAre_at hI hv
    obtain ⟨hn0, hn1⟩ := hns n (List.mem_of_getElem? hn)
    have hi16 : i < 16 := by
      have := (List.getElem?_eq_some_iff.mp hn).1
      omega
    rw [put_same hm1, put_same hm2, put_same hm0] at F₁
    clear F N hm hm1 hm2 hm0
    have r3 := fmod_rng (n.fdiv 6) (k := 3) (by decide)
    have r26 := fmod_rng (n.fdiv 18) (k := 26) (by decide)
    have q1 : @Ne Nat e I := hI1 _ (.head _)
    have q2 : @Ne Nat (h₀.objs.size + 1 + 1) I := hI1 _ (.tail _ (.head _))
    have q3 : @Ne Nat (h₀.objs.size + 1) I := hI1 _ (.tail _ (.tail _ (.head _)))
    have q4 : @Ne Nat I D := hID
    have hes : es.toArray.size ≤ sizeLine := by simp only [List.size_toArray, sizeLine_eq]; omega
    k_steps
    · rename News _ _ _ _ => kN
      refine ⟨rfl, _, _, _, _, rfl, (by k_asm), (fun p hp => kN p hp), rfl, lj0 hn (by first | assumption | omega | simp_all) hz hf hx1 hy1 he1 (by exact rfl) (by first | exact if_pos rfl | exact (if_neg (by decide)).trans (if_pos rfl) | exact (if_neg (by decide)).trans ((if_neg (by decide)).trans (if_pos rfl))) (by exact rfl) (by assumption)⟩
    · rename News _ _ _ _ => kN
      refine ⟨rfl, _, _, _, _, rfl, (by k_asm), (fun p hp => kN p (.tail _ hp)), rfl, lj1 hn (by first | assumption | omega | simp_all) (by assumption) hz hf hx1 hy1 he1 (by exact rfl) (by first | exact if_pos rfl | exact (if_neg (by decide)).trans (if_pos rfl) | exact (if_neg (by decide)).trans ((if_neg (by decide)).trans (if_pos rfl))) (by exact rfl) (by assumption)⟩
  · intro h' tk' m' news' F' N' hJ
    exact ret h' tk' m' news' (hl ▸ hJ) F' N'
end
end Mine
end
section
theorem Mine.begins_L7 : True := by
  w_top off
  trivial
open PySem PySem.W PyProof.Rows
set_option maxRecDepth 100000
set_option maxHeartbeats 4000000
namespace Mine
noncomputable def cutScope : Scope := { kind := .function, names := [(Str.ofString ".0", .local), (Str.ofString "end", .local), (Str.ofString "plain", .free)], isGenerator := false, isCoroutine := false }
section
variable {w : World} {A : Around} {h₀ : Heap} {L C : Addr} {m : Str → Option Value} {env : Env} {s : Shared} {m₃ : Str → Option Value} {E : Value → Shared → Prop} {p1 p2 p3 p4 : Pos} {y : Str} {ty : Tok} {z : Int} {t : Tok} {c : Addr}
theorem el_cut (hcell : s.heap.IsCell c (some (.str y ty))) (hyl : y.length ≤ 200) (hx : (compEnvC cutScope [(Str.ofString "plain", c)] C env).kindOf (Str.ofString "plain") = some .cell) (hn : s.heap.Ns C m₃) (hm : m₃ (Str.ofString "end") = some (.int z t)) :
    wpAny (model pg w) A (eval (.Subscript (.Name (Str.ofString "plain") p1) (.Slice none (some (.Name (Str.ofString "end") p2)) none p3) p4) (compEnvC cutScope [(Str.ofString "plain", c)] C env))
      (fun y' s₄ => (∃ u, y' = .str (Txt.slice y none (some z)) u) ∧ Keeps s s₄) E s := by
  have cE' := InElt.start s.heap
  walk1
  refine wpAny_Name (wpAny_loadName_cell (by rfl) hx (by rfl) hcell ?_) (by decide)
  walk1
  walk1
  walk1
  refine wpAny_Name (wpAny_loadName_local (by rfl) (by rfl) hn hm ?_) (by decide)
  walk1
  exact tail_of_ItemOn (SBH.sliceItem_ns (P := Ext s.heap) (fun h ob k b o e => Heap.get?_push_of_some _ (k b o e)) (fun b o e => e) (fun h' t' k K => ⟨⟨t', rfl⟩, h', k, rfl, K⟩) (by simp only [sizeLine_eq]; omega)) (by with_unfolding_all rfl) (by intro _; with_unfolding_all rfl)
end
noncomputable def intOf (v : Value) : Int := match v with | .int n _ => n | _ => 0
theorem cuts_paired {y : Str} : ∀ {ws ys : List Value} {zs : List Int}, IntsAre ws zs → Paired (fun v y' => ∃ u, y' = .str (Txt.slice y none (some (intOf v))) u) ws ys → StrsV ys (zs.map fun z => Txt.slice y none (some z))
  | _, _, _, .nil, .nil => .nil
  | _, _, _, .cons n t h, .cons ⟨u, e⟩ p => by
    rw [e]
    exact .cons (cuts_paired h p)
theorem ints_is {ws : List Value} {zs : List Int} (h : IntsAre ws zs) : ∀ {i : Nat} {v : Value}, ws[i]? = some v → ∃ n t, v = .int n t := fun hv => by
  obtain ⟨n, t, _, e⟩ := intsAre_at h hv
  exact ⟨n, t, e⟩
theorem vs_eq {ws vs : List Value} (hlen : vs.length = ws.length) (h : ∀ (j : Nat) (v : Value), vs[j]? = some v → ws.toArray[j]? = some v) : vs = ws := by
  apply List.ext_getElem?
  intro j
  cases e : vs[j]? with
  | none =>
    rw [List.getElem?_eq_none_iff] at e
    rw [eq_comm, List.getElem?_eq_none_iff]
    omega
  | some v =>
    have := h j v e
    simpa using this.symm
section
variable {w : World} {A : Around} {env : Env} {s : Shared} {E : Value → Shared → Prop} {p1 p2 p3 p4 p5 p6 : Pos} {y : Str} {ty : Tok} {c : Addr} {iter : PySem.Expr}
noncomputable abbrev cutElt (p1 p2 p3 p4 : Pos) : PySem.Expr := .Subscript (.Name (Str.ofString "plain") p1) (.Slice none (some (.Name (Str.ofString "end") p2)) none p3) p4
theorem cuts_quiet {ws : List Value} {zs : List Int} {I : Addr} {s₂ : Shared} (hI : IntsAre ws zs) (hcell : s₂.heap.IsCell c (some (.str y ty))) (hcI : c ≠ I) (hyl : y.length ≤ 200) (hx : ∀ C, (compEnvC cutScope [(Str.ofString "plain", c)] C env).kindOf (Str.ofString "plain") = some .cell) :
    QuietOnC pg w A env cutScope [(Str.ofString "plain", c)] (Str.ofString "end") [] (cutElt p1 p2 p3 p4) [I] (fun i v => ws.toArray[i]? = some v) (fun _ => true) (fun v y' => ∃ u, y' = .str (Txt.slice y none (some (intOf v))) u) s₂ where
  tests := fun C i v s₃ m₃ E' _ hP hn hm hk _ => by
    show wpAny _ _ (pure true) _ _ _
    exact wpAny_pure ⟨rfl, s₃.heap, s₃.toks, rfl, fun _ _ e => e⟩
  elt := fun C i v s₃ m₃ E' _ hP hp hn hm hk _ => by
    have hP' : ws[i]? = some v := by simpa using hP
    obtain ⟨n, t, rfl⟩ := ints_is hI hP'
    obtain ⟨o, ho, hd⟩ := hcell
    exact el_cut ⟨o, hk c o (fun h => hcI (List.mem_singleton.mp h)) ho, hd⟩ hyl (hx C) hn hm
theorem comp_cuts {Q : Value → Shared → Prop} (hclos : closureFor cutScope env = pure [(Str.ofString "plain", c)]) (hh : A.handled = none) (hyl : y.length ≤ 200) (hx : ∀ C, (compEnvC cutScope [(Str.ofString "plain", c)] C env).kindOf (Str.ofString "plain") = some .cell)
    (h : wpAny (model pg w) A (eval iter env) (fun v s₁ => ∃ D ws zs, v = .ref D ∧ s₁.heap.IsList D ws.toArray ∧ IntsAre ws zs ∧ ws.length ≤ sizeLine ∧ s₁.heap.IsCell c (some (.str y ty)) ∧
      (∀ N h' tk ys, s₁.heap.get? N = none → h'.PlainList N ys.toArray → StrsV ys (zs.map fun z => Txt.slice y none (some z)) → Ext s₁.heap h' → Q (.ref N) { s₁ with heap := h', toks := tk })) E s)
    (hs : ∀ x, foldedSetIterable iter env x = pure x) :
    wpAny (model pg w) A (eval (.ListComp (cutElt p1 p2 p3 p4) [⟨.Name (Str.ofString "end") p5, iter, [], 0⟩] cutScope p6) env) Q E s := by
  refine wpAny_ListComp_free (cl := [(Str.ofString "plain", c)]) (fun _ => true) (fun v y' => ∃ u, y' = .str (Txt.slice y none (some (intOf v))) u) hclos (by decide) rfl (by decide) (by rfl) ?_ hs
  refine wpAny_mono h (fun v s₁ h₁ => ?_) fun _ _ e => e
  obtain ⟨D, ws, zs, rfl, hl, hI, hsz, hcell, hQ⟩ := h₁
  obtain ⟨lo, hlo, hlr⟩ := hl
  obtain ⟨co, hco, hcd⟩ := hcell
  have hDI : D ≠ s₁.heap.objs.size := Nat.ne_of_lt (Heap.lt_size hlo)
  have hcI : c ≠ s₁.heap.objs.size := Nat.ne_of_lt (Heap.lt_size hco)
  have hnew : s₁.heap.get? s₁.heap.objs.size = none := by
    cases e : s₁.heap.get? s₁.heap.objs.size with
    | none => rfl
    | some o => exact absurd (Heap.lt_size e) (Nat.lt_irrefl _)
  refine wpAny_pyIter_list ⟨lo, hlo, hlr⟩ ?_
  refine ⟨s₁.heap.objs.size, [s₁.heap.objs.size, D], [s₁.heap.objs.size], ws.toArray.size, _, _, rfl, Walks.list hh _ D hDI ws.toArray, by simpa using hsz, ⟨⟨_, Heap.get?_push_size _ rfl, rfl, rfl⟩, ⟨lo, Heap.get?_push_of_some _ hlo, hlr⟩⟩, ?_, cuts_quiet hI ⟨co, Heap.get?_push_of_some _ hco, hcd⟩ hcI hyl hx, ?_⟩
  · intro b hb
    show b < (s₁.heap.push _).objs.size
    rw [Heap.size_push]
    rcases List.mem_cons.mp hb with rfl | hb
    · exact Nat.lt_succ_self _
    · rw [List.mem_singleton.mp hb]; exact Nat.lt_succ_of_lt (Heap.lt_size hlo)
  · intro N h' tk ys vs hN hlN hplN hlen hP hF hk
    have e := vs_eq (ws := ws) (by simpa using hlen) hP
    subst e
    have up : Ext s₁.heap h' := fun b o e => hk b o (fun hm => by rw [List.mem_singleton.mp hm, hnew] at e; cases e) (Heap.get?_push_of_some _ e)
    refine hQ N h' tk ys.toList ?_ (by rw [Array.toArray_toList]; exact hplN) (cuts_paired hI ?_) up
    · cases e : s₁.heap.get? N with
      | none => rfl
      | some o => rw [Heap.get?_push_of_some _ e] at hN; cases hN
    · rw [List.filter_eq_self.mpr (fun _ _ => rfl)] at hF
      exact hF
end
end Mine
end
section
theorem Mine.begins_L8 : True := by
  w_top off
  trivial
open PySem PySem.W PyProof.Rows
set_option maxRecDepth 100000
set_option maxHeartbeats 4000000
namespace Mine
section
variable {w : World} {h₀ : Heap} {fa : Addr} {cd : Value} {m : Str → Option Value} {s : Shared} {Q : Flow → Shared → Prop} {E : Value → Shared → Prop} {loose : List Str} {mean : ExcName → Option Value} {mg mb : Str → Option Value} {oc op : Obj} {cv pv : Option Value}
local macro_rules | `(tactic| walk_at "loadName") => `(tactic| (k_here; (with_reducible show wpAny _ _ (loadName _ (Str.ofString "plain")) _ _ _); k_dflt (refine' ldnCN ?n rfl ?m ?d ?_; (case n => k_asm); (case m => k_mem); (case d => assumption))))
theorem st5 {D : Addr} {x : Str} {tx : Tok} {e : Addr} {ys es ts : List Value} {ns zs : List Int} {k kt : Nat} {y : Str} {ty : Tok} (K0 : Below callerA h₀ [] h₀) (X : (hd.heap_39 w.params).In h₀) (S1 : Extra w h₀) (T : Top qv loose mean mg mb h₀)
    (F : Fr h₀ h₀.objs.size s.heap m) (hv_numbers : m (Str.ofString "numbers") = some (.ref D)) (hv_spelled : m (Str.ofString "spelled") = some (.str x tx)) (hv_ends : m (Str.ofString "ends") = some (.ref e))
    (N : News h₀ h₀.objs.size s.heap [(D, LCg.lst ys), (e, W.listOf es.toArray k), (h₀.objs.size + 1 + 1, oc), (h₀.objs.size + 1, op)]) (hp : op.data = .cell (some (.str y ty))) (hyl : y.length ≤ 100) (hes : es.toArray.size ≤ sizeLine) (hne : @Ne Nat D e ∧ @Ne Nat e (h₀.objs.size + 1 + 1) ∧ @Ne Nat e (h₀.objs.size + 1))
    (ret : ∀ t h' tk' m', m' (Str.ofString "numbers") = some (.ref D) → m' (Str.ofString "spelled") = some (.str x tx) → m' (Str.ofString "ends") = some (.ref e) → Fr h₀ h₀.objs.size h' m' → News h₀ h₀.objs.size h' [(D, LCg.lst ys), (e, W.listOf (es.toArray.push (.int y.length t)) (k + 1)), (h₀.objs.size + 1 + 1, oc), (h₀.objs.size + 1, op)] → Q .next { s with heap := h', toks := tk' }) :
    wpAny (model pg w) (lA h₀ fa cd) (exec (lawRec.body.tail.tail.tail.tail.tail.headD nil0) (lenv h₀ fa cd)) Q E s := by
  
  unfold pg
  revert X
  k_fill
  intro X
  rw [put_same hv_numbers, put_same hv_spelled, put_same hv_ends] at F
  unfold lA lenv lawRec lawRecOf
  dsimp only [List.tail_cons, List.headD_cons]
  k_steps
  all_goals (refine' ret _ _ _ _ ?a0 ?a1 ?a2 ?f ?n; (case f => k_asm); (case n => k_asm); (case a0 => (repeat (first | exact if_pos rfl | (refine Eq.trans (if_pos rfl) ?_; exact rfl) | refine Eq.trans (if_neg (by decide)) ?_))); (case a1 => (repeat (first | exact if_pos rfl | (refine Eq.trans (if_pos rfl) ?_; exact rfl) | refine Eq.trans (if_neg (by decide)) ?_))); (case a2 => (repeat (first | exact if_pos rfl | (refine Eq.trans (if_pos rfl) ?_; exact rfl) | refine Eq.trans (if_neg (by decide)) ?_))))
theorem st6 {D : Addr} {x : Str} {tx : Tok} {e : Addr} {ys es ts : List Value} {ns zs : List Int} {k kt : Nat} {y : Str} {ty : Tok} (K0 : Below callerA h₀ [] h₀) (X : (hd.heap_39 w.params).In h₀) (S1 : Extra w h₀) (T : Top qv loose mean mg mb h₀)
    (F : Fr h₀ h₀.objs.size s.heap m) (hv_numbers : m (Str.ofString "numbers") = some (.ref D)) (hv_spelled : m (Str.ofString "spelled") = some (.str x tx)) (hv_ends : m (Str.ofString "ends") = some (.ref e))
    (N : News h₀ h₀.objs.size s.heap [(D, LCg.lst ys), (e, W.listOf es.toArray k), (h₀.objs.size + 1 + 1, oc), (h₀.objs.size + 1, op)]) (hp : op.data = .cell (some (.str y ty))) (hyl : y.length ≤ 100) (hxl : x.length ≤ 100) (hI : IntsAre ys ns) (hl : ys.length = ns.length) (hlen : ns.length ≤ 16)
    (ret : ∀ t h' tk' m', m' (Str.ofString "numbers") = some (.ref D) → m' (Str.ofString "spelled") = some (.str (x ++ Txt.mul (Str.ofString "/") ((ns.length : Int).fmod 3)) t) → m' (Str.ofString "ends") = some (.ref e) → Fr h₀ h₀.objs.size h' m' → News h₀ h₀.objs.size h' [(D, LCg.lst ys), (e, W.listOf es.toArray k), (h₀.objs.size + 1 + 1, oc), (h₀.objs.size + 1, op)] → Q .next { s with heap := h', toks := tk' }) :
    wpAny (model pg w) (lA h₀ fa cd) (exec (lawRec.body.tail.tail.tail.tail.tail.tail.headD nil0) (lenv h₀ fa cd)) Q E s := by
  have hr := fmod_rng (ns.length : Int) (k := 3) (by decide)
  unfold pg
  revert X
  k_fill
  intro X
  rw [put_same hv_numbers, put_same hv_spelled, put_same hv_ends] at F
  unfold lA lenv lawRec lawRecOf
  dsimp only [List.tail_cons, List.headD_cons]
  k_steps
  all_goals (refine' ret _ _ _ _ ?a0 ?a1 ?a2 ?f ?n; (case f => k_asm); (case n => k_asm); (case a0 => (repeat (first | exact if_pos rfl | (refine Eq.trans (if_pos rfl) ?_; exact rfl) | refine Eq.trans (if_neg (by decide)) ?_))); (case a1 => (repeat (first | exact if_pos rfl | (refine Eq.trans (if_pos rfl) ?_; exact rfl) | refine Eq.trans (if_neg (by decide)) ?_))); (case a2 => (repeat (first | exact if_pos rfl | (refine Eq.trans (if_pos rfl) ?_; exact rfl) | refine Eq.trans (if_neg (by decide)) ?_))))
theorem st8 {D : Addr} {x : Str} {tx : Tok} {e : Addr} {tl : Addr} {ys es ts : List Value} {ns zs : List Int} {k kt : Nat} {y : Str} {ty : Tok} (K0 : Below callerA h₀ [] h₀) (X : (hd.heap_39 w.params).In h₀) (S1 : Extra w h₀) (T : Top qv loose mean mg mb h₀)
    (F : Fr h₀ h₀.objs.size s.heap m) (hv_numbers : m (Str.ofString "numbers") = some (.ref D)) (hv_spelled : m (Str.ofString "spelled") = some (.str x tx)) (hv_ends : m (Str.ofString "ends") = some (.ref e)) (hv_told : m (Str.ofString "told") = some (.ref tl))
    (N : News h₀ h₀.objs.size s.heap [(D, LCg.lst ys), (e, W.listOf es.toArray k), (tl, W.listOf ts.toArray kt), (h₀.objs.size + 1 + 1, oc), (h₀.objs.size + 1, op)]) (hp : op.data = .cell (some (.str y ty))) (hyl : y.length ≤ 100) (hI : IntsAre ys ns) (hl : ys.length = ns.length) (hlen : ns.length ≤ 16) (hns : ∀ n ∈ ns, 0 ≤ n ∧ n < 1000000) (hz : IntsAre es zs) (hez : es.length = zs.length) (hzl : 1 ≤ zs.length ∧ zs.length ≤ 17) (hsum : 0 ≤ ns.sum ∧ ns.sum ≤ 16000000)
    (ret : ∀ t h' tk' m', m' (Str.ofString "numbers") = some (.ref D) → m' (Str.ofString "spelled") = some (.str x tx) → m' (Str.ofString "ends") = some (.ref e) → m' (Str.ofString "told") = some (.ref tl) → m' (Str.ofString "kept") = some (.int (ns.sum.fmod zs.length) t) → Fr h₀ h₀.objs.size h' m' → News h₀ h₀.objs.size h' [(D, LCg.lst ys), (e, W.listOf es.toArray k), (tl, W.listOf ts.toArray kt), (h₀.objs.size + 1 + 1, oc), (h₀.objs.size + 1, op)] → Q .next { s with heap := h', toks := tk' }) :
    wpAny (model pg w) (lA h₀ fa cd) (exec (lawRec.body.tail.tail.tail.tail.tail.tail.tail.tail.headD nil0) (lenv h₀ fa cd)) Q E s := by
  
  unfold pg
  revert X
  k_fill
  intro X
  rw [put_same hv_numbers, put_same hv_spelled, put_same hv_ends, put_same hv_told] at F
  unfold lA lenv lawRec lawRecOf
  dsimp only [List.tail_cons, List.headD_cons]
  k_steps
  all_goals (refine' ret _ _ _ _ ?a0 ?a1 ?a2 ?a3 ?a4 ?f ?n; (case f => k_asm); (case n => k_asm); (case a0 => (repeat (first | exact if_pos rfl | (refine Eq.trans (if_pos rfl) ?_; exact rfl) | refine Eq.trans (if_neg (by decide)) ?_))); (case a1 => (repeat (first | exact if_pos rfl | (refine Eq.trans (if_pos rfl) ?_; exact rfl) | refine Eq.trans (if_neg (by decide)) ?_))); (case a2 => (repeat (first | exact if_pos rfl | (refine Eq.trans (if_pos rfl) ?_; exact rfl) | refine Eq.trans (if_neg (by decide)) ?_))); (case a3 => (repeat (first | exact if_pos rfl | (refine Eq.trans (if_pos rfl) ?_; exact rfl) | refine Eq.trans (if_neg (by decide)) ?_))); (case a4 => (repeat (first | exact if_pos rfl | (refine Eq.trans (if_pos rfl) ?_; exact rfl) | refine Eq.trans (if_neg (by decide)) ?_))))
theorem st9 {D : Addr} {x : Str} {tx : Tok} {e : Addr} {tl : Addr} {kp : Int} {tk : Tok} {ys es ts : List Value} {ns zs : List Int} {k kt : Nat} {y : Str} {ty : Tok} (K0 : Below callerA h₀ [] h₀) (X : (hd.heap_39 w.params).In h₀) (S1 : Extra w h₀) (T : Top qv loose mean mg mb h₀)
    (F : Fr h₀ h₀.objs.size s.heap m) (hv_numbers : m (Str.ofString "numbers") = some (.ref D)) (hv_spelled : m (Str.ofString "spelled") = some (.str x tx)) (hv_ends : m (Str.ofString "ends") = some (.ref e)) (hv_told : m (Str.ofString "told") = some (.ref tl)) (hv_kept : m (Str.ofString "kept") = some (.int kp tk))
    (N : News h₀ h₀.objs.size s.heap [(D, LCg.lst ys), (e, W.listOf es.toArray k), (tl, W.listOf ts.toArray kt), (h₀.objs.size + 1 + 1, oc), (h₀.objs.size + 1, op)]) (hp : op.data = .cell (some (.str y ty))) (hyl : y.length ≤ 100) (hz : IntsAre es zs) (hez : es.length = zs.length) (hkp : 0 ≤ kp ∧ kp < (zs.length : Int)) (hzl : 1 ≤ zs.length ∧ zs.length ≤ 17)
    (ret : ∀ t h' tk' m', m' (Str.ofString "numbers") = some (.ref D) → m' (Str.ofString "spelled") = some (.str x tx) → m' (Str.ofString "ends") = some (.ref e) → m' (Str.ofString "told") = some (.ref tl) → m' (Str.ofString "kept") = some (.int kp tk) → m' (Str.ofString "other") = some (.str (Txt.slice y none (some (zs.getD kp.toNat 0)) ++ Str.ofString "//y") t) → Fr h₀ h₀.objs.size h' m' → News h₀ h₀.objs.size h' [(D, LCg.lst ys), (e, W.listOf es.toArray k), (tl, W.listOf ts.toArray kt), (h₀.objs.size + 1 + 1, oc), (h₀.objs.size + 1, op)] → Q .next { s with heap := h', toks := tk' }) :
    wpAny (model pg w) (lA h₀ fa cd) (exec (lawRec.body.tail.tail.tail.tail.tail.tail.tail.tail.tail.headD nil0) (lenv h₀ fa cd)) Q E s := by
  
  unfold pg
  revert X
  k_fill
  intro X
  rw [put_same hv_numbers, put_same hv_spelled, put_same hv_ends, put_same hv_told, put_same hv_kept] at F
  unfold lA lenv lawRec lawRecOf
  dsimp only [List.tail_cons, List.headD_cons]
  k_steps
  all_goals (refine' ret _ _ _ _ ?a0 ?a1 ?a2 ?a3 ?a4 ?a5 ?f ?n; (case f => k_asm); (case n => k_asm); (case a0 => (repeat (first | exact if_pos rfl | (refine Eq.trans (if_pos rfl) ?_; exact rfl) | refine Eq.trans (if_neg (by decide)) ?_))); (case a1 => (repeat (first | exact if_pos rfl | (refine Eq.trans (if_pos rfl) ?_; exact rfl) | refine Eq.trans (if_neg (by decide)) ?_))); (case a2 => (repeat (first | exact if_pos rfl | (refine Eq.trans (if_pos rfl) ?_; exact rfl) | refine Eq.trans (if_neg (by decide)) ?_))); (case a3 => (repeat (first | exact if_pos rfl | (refine Eq.trans (if_pos rfl) ?_; exact rfl) | refine Eq.trans (if_neg (by decide)) ?_))); (case a4 => (repeat (first | exact if_pos rfl | (refine Eq.trans (if_pos rfl) ?_; exact rfl) | refine Eq.trans (if_neg (by decide)) ?_))); (case a5 => (repeat (first | exact if_pos rfl | (refine Eq.trans (if_pos rfl) ?_; exact rfl) | refine Eq.trans (if_neg (by decide)) ?_))))
end
end Mine
end
section
theorem Mine.begins_L9 : True := by
  w_top off
  trivial
open PySem PySem.W PyProof.Rows
set_option maxRecDepth 100000
set_option maxHeartbeats 4000000
namespace Mine
theorem ints_len {vs : List Value} {ns : List Int} (h : IntsAre vs ns) : vs.length = ns.length := by
  induction h with
  | nil => rfl
  | cons n t h ih => simp only [List.length_cons, ih]
/-- an expression gave a new list of ints -/
noncomputable def RevQ (h₀ : Heap) (L : Addr) (VP : (Str → Option Value) → Prop) (news : List (Addr × Obj)) (zs : List Int) (s : Shared) (v : Value) (s₁ : Shared) : Prop :=
  ∃ D ws h' tk' m₁, v = .ref D ∧ s₁ = { s with heap := h', toks := tk' } ∧ IntsAre ws zs ∧ ws.length = zs.length ∧ VP m₁ ∧ Fr h₀ L h' m₁ ∧ News h₀ L h' ((D, W.listOf ws.toArray 0) :: news)
/-- the heap's new things after a comprehension -/
theorem news_ext {h₀ h h' : Heap} {L N : Addr} {m : Str → Option Value} {news : List (Addr × Obj)} {o : Obj} (F : Fr h₀ L h m) (Nw : News h₀ L h news) (hN : h.get? N = none) (ho : h'.get? N = some o)
    (up : ∀ b o, b ≠ L → h.get? b = some o → h'.get? b = some o) : News h₀ L h' ((N, o) :: news) ∧ (∀ p ∈ news, @Ne Nat p.1 N) ∧ @Ne Nat N L := by
  have hNL : @Ne Nat N L := by
    rintro rfl
    obtain ⟨o, _, _, ho, _⟩ := F.ns
    rw [hN] at ho; cases ho
  refine ⟨fun p hp => ?_, fun p hp e => ?_, hNL⟩
  · rcases List.mem_cons.mp hp with rfl | hp
    · refine ⟨ho, hNL, ?_⟩
      cases e : h₀.get? N with
      | none => rfl
      | some o => rw [F.keep _ _ e] at hN; cases hN
    · exact ⟨up _ _ (Nw p hp).2.1 (Nw p hp).1, (Nw p hp).2⟩
  · have := (Nw p hp).1
    rw [e, hN] at this; cases this
section
variable {w : World} {h₀ : Heap} {fa : Addr} {cd : Value} {m : Str → Option Value} {s : Shared} {Q : Flow → Shared → Prop} {E : Value → Shared → Prop} {loose : List Str} {mean : ExcName → Option Value} {mg mb : Str → Option Value} {oc op : Obj} {cv pv : Option Value}
theorem st7 {D : Addr} {x : Str} {tx : Tok} {e : Addr} {ys es : List Value} {zs : List Int} {k : Nat} {y : Str} {ty : Tok} (K0 : Below callerA h₀ [] h₀) (X : (hd.heap_39 w.params).In h₀) (S1 : Extra w h₀) (T : Top qv loose mean mg mb h₀)
    (F : Fr h₀ h₀.objs.size s.heap m) (hv_numbers : m (Str.ofString "numbers") = some (.ref D)) (hv_spelled : m (Str.ofString "spelled") = some (.str x tx)) (hv_ends : m (Str.ofString "ends") = some (.ref e))
    (N : News h₀ h₀.objs.size s.heap [(D, LCg.lst ys), (e, W.listOf es.toArray k), (h₀.objs.size + 1 + 1, oc), (h₀.objs.size + 1, op)]) (hp : op.data = .cell (some (.str y ty))) (hyl : y.length ≤ 100)
    (hz : IntsAre es zs) (hez : es.length = zs.length) (hzl : 1 ≤ zs.length ∧ zs.length ≤ 17)
    (ret : ∀ tl ts kt h' tk' m', m' (Str.ofString "numbers") = some (.ref D) → m' (Str.ofString "spelled") = some (.str x tx) → m' (Str.ofString "ends") = some (.ref e) → m' (Str.ofString "told") = some (.ref tl) → Fr h₀ h₀.objs.size h' m' →
      News h₀ h₀.objs.size h' [(D, LCg.lst ys), (e, W.listOf es.toArray k), (tl, W.listOf ts.toArray kt), (h₀.objs.size + 1 + 1, oc), (h₀.objs.size + 1, op)] → StrsV ts (zs.reverse.map fun z => Txt.slice y none (some z)) → Q .next { s with heap := h', toks := tk' }) :
    wpAny (model pg w) (lA h₀ fa cd) (exec (lawRec.body.tail.tail.tail.tail.tail.tail.tail.headD nil0) (lenv h₀ fa cd)) Q E s := by
  unfold pg
  revert X
  k_fill
  intro X
  rw [put_same hv_numbers, put_same hv_spelled, put_same hv_ends] at F
  unfold lA lenv lawRec lawRecOf
  dsimp only [List.tail_cons, List.headD_cons]
  refine wpAny_Assign_ListComp_free (cl := [(Str.ofString "plain", h₀.objs.size + 1)]) (fun _ => true) (fun v y' => ∃ u, y' = .str (Txt.slice y none (some (intOf v))) u) (by rfl) (by rfl) (by decide) rfl (by decide) (by rfl) (by rfl) (by rfl) ?_ (fun _ => rfl)
  refine wpAny_mono (Q := RevQ h₀ h₀.objs.size (fun m₁ => m₁ (Str.ofString "numbers") = some (.ref D) ∧ m₁ (Str.ofString "spelled") = some (.str x tx) ∧ m₁ (Str.ofString "ends") = some (.ref e)) [(D, LCg.lst ys), (e, W.listOf es.toArray k), (h₀.objs.size + 1 + 1, oc), (h₀.objs.size + 1, op)] zs.reverse s) ?_ (fun v s₁ h₁ => ?_) (fun _ _ h => h)
  · k_steps
    all_goals (refine' ⟨_, _, _, _, _, rfl, rfl, ?i, ?l, ?v, ?f, ?n⟩; (case i => assumption); (case f => k_asm); (case n => k_asm); (case l => exact ints_len (by assumption)); (case v => refine ⟨?_, ?_, ?_⟩ <;> (repeat (first | exact if_pos rfl | (refine Eq.trans (if_pos rfl) ?_; exact rfl) | refine Eq.trans (if_neg (by decide)) ?_))))
  · obtain ⟨R, ws, h', tk', m₁, rfl, rfl, hI, hl, ⟨v1, v2, v3⟩, F', N'⟩ := h₁
    have hR := (N' _ (.head _)).1
    have hco := (N' _ (.tail _ (.tail _ (.tail _ (.tail _ (.head _)))))).1
    have hRI : R ≠ h'.objs.size := Nat.ne_of_lt (Heap.lt_size hR)
    have hcI : h₀.objs.size + 1 ≠ h'.objs.size := Nat.ne_of_lt (Heap.lt_size hco)
    have hLI : h₀.objs.size ≠ h'.objs.size := Nat.ne_of_lt F'.ns.lt
    have hnew : h'.get? h'.objs.size = none := by
      cases e : h'.get? h'.objs.size with
      | none => rfl
      | some o => exact absurd (Heap.lt_size e) (Nat.lt_irrefl _)
    refine wpAny_pyIter_list ⟨_, hR, rfl, _, rfl⟩ ?_
    refine ⟨h'.objs.size, [h'.objs.size, R], [h'.objs.size], ws.toArray.size, _, _, m₁, rfl, Walks.list rfl _ R hRI ws.toArray, by simp only [List.size_toArray, sizeLine_eq, List.length_reverse] at *; omega, ⟨⟨_, Heap.get?_push_size _ rfl, rfl, rfl⟩, ⟨_, Heap.get?_push_of_some _ hR, rfl, _, rfl⟩⟩, ?_, fun h => hLI (List.mem_singleton.mp h), F'.ns.at' fun o e => Heap.get?_push_of_some _ e, cuts_quiet hI ⟨_, Heap.get?_push_of_some _ hco, hp⟩ hcI (Nat.le_trans hyl (by decide)) (fun _ => rfl), ?_⟩
    · intro b hb
      show b < (h'.push _).objs.size
      rw [Heap.size_push]
      rcases List.mem_cons.mp hb with rfl | hb
      · exact Nat.lt_succ_self _
      · rw [List.mem_singleton.mp hb]; exact Nat.lt_succ_of_lt (Heap.lt_size hR)
    · intro T1 h2 tk2 ts vs hN hlN hplN hlen hP hF hns hk
      have e1 := vs_eq (ws := ws) (by simpa using hlen) hP
      subst e1
      obtain ⟨kt, hkt⟩ := hplN
      have hN' : h'.get? T1 = none := by
        cases e : h'.get? T1 with
        | none => rfl
        | some o => rw [Heap.get?_push_of_some _ e] at hN; cases hN
      have up : ∀ b o, b ≠ h₀.objs.size → h'.get? b = some o → h2.get? b = some o := fun b o hb e => hk b o hb (fun hm => by rw [List.mem_singleton.mp hm, hnew] at e; cases e) (Heap.get?_push_of_some _ e)
      have F2 : Fr h₀ h₀.objs.size h2 _ := ⟨hns, fun b o e => up b o (Nat.ne_of_lt (Heap.lt_size e)) (F'.keep b o e), F'.above⟩
      have N2 := (news_ext F' N' hN' hkt up).1
      refine ret T1 ts.toList kt h2 tk2 _ ?_ ?_ ?_ ?_ F2 ?_ ?_
      · exact (if_neg (by decide)).trans v1
      · exact (if_neg (by decide)).trans v2
      · exact (if_neg (by decide)).trans v3
      · exact if_pos rfl
      · rw [Array.toArray_toList]
        intro p hp
        rcases List.mem_cons.mp hp with rfl | hp
        · exact N2 _ (.tail _ (.tail _ (.head _)))
        · rcases List.mem_cons.mp hp with rfl | hp
          · exact N2 _ (.tail _ (.tail _ (.tail _ (.head _))))
          · rcases List.mem_cons.mp hp with rfl | hp
            · exact N2 _ (.head _)
            · exact N2 _ (.tail _ (.tail _ (.tail _ (.tail _ hp))))
      · rw [List.filter_eq_self.mpr (fun _ _ => rfl)] at hF
        exact cuts_paired hI hF
end
end Mine
end
section
theorem Mine.begins_LA : True := by
  w_top off
  trivial
local macro_rules | `(tactic| walk_at "none") => `(tactic| fail)
open PySem PySem.W PyProof.Rows
set_option maxRecDepth 100000
set_option maxHeartbeats 4000000
namespace Mine
theorem strsV_len {vs : List Value} {xs : List Str} (h : StrsV vs xs) : vs.length = xs.length := by
  induction h with
  | nil => rfl
  | cons h ih => simp only [List.length_cons, ih]
section
variable {w : World} {A : Around} {env : Env} {s : Shared} {E : Value → Shared → Prop} {p1 p2 p3 p4 p5 p6 : Pos} {y : Str} {ty : Tok} {c : Addr} {iter : PySem.Expr} {h₀ : Heap} {L : Addr} {m₀ : Str → Option Value} {news : List (Addr × Obj)} {zs : List Int} {op : Obj}
theorem comp_cutsR {Q : Value → Shared → Prop} (F : Fr h₀ L s.heap m₀) (N : News h₀ L s.heap news) (hmem : (c, op) ∈ news) (hp : op.data = .cell (some (.str y ty))) (hzl : zs.length ≤ 100) (hclos : closureFor cutScope env = pure [(Str.ofString "plain", c)]) (hh : A.handled = none) (hyl : y.length ≤ 200) (hx : ∀ C, (compEnvC cutScope [(Str.ofString "plain", c)] C env).kindOf (Str.ofString "plain") = some .cell)
    (h : wpAny (model pg w) A (eval iter env) (RevQ h₀ L (fun m => m = m₀) news zs s) E s)
    (hs : ∀ x, foldedSetIterable iter env x = pure x)
    (hQ : ∀ R ts kt h' tk', Fr h₀ L h' m₀ → News h₀ L h' ((R, W.listOf ts.toArray kt) :: news) → AllNe R news → StrsV ts (zs.map fun z => Txt.slice y none (some z)) → Q (.ref R) { s with heap := h', toks := tk' }) :
    wpAny (model pg w) A (eval (.ListComp (cutElt p1 p2 p3 p4) [⟨.Name (Str.ofString "end") p5, iter, [], 0⟩] cutScope p6) env) Q E s := by
  refine comp_cuts (ty := ty) hclos hh hyl hx (wpAny_mono h (fun v s₁ h₁ => ?_) fun _ _ e => e) hs
  obtain ⟨D, ws, h', tk', m₁, rfl, rfl, hI, hl, rfl, F', N'⟩ := h₁
  refine ⟨D, ws, zs, rfl, ⟨_, (N' _ (.head _)).1, rfl, _, rfl⟩, hI, by rw [hl, sizeLine_eq]; omega, ⟨_, (N' _ (.tail _ hmem)).1, hp⟩, fun R h2 tk2 ts hR ⟨kt, hpl⟩ hS up => ?_⟩
  have N0 : News h₀ L h' news := fun p hp => N' p (.tail _ hp)
  have e := news_ext F' N0 hR hpl fun b o _ e => up b o e
  exact hQ R ts kt h2 tk2 ⟨F'.ns.at' fun o e => up _ o e, fun b o e => up b o (F'.keep b o e), F'.above⟩ e.1 (allNe_of e.2.1) hS
end
section
variable {w : World} {h₀ : Heap} {fa : Addr} {cd : Value} {m : Str → Option Value} {s : Shared} {Q : Flow → Shared → Prop} {E : Value → Shared → Prop} {loose : List Str} {mean : ExcName → Option Value} {mg mb : Str → Option Value} {oc op : Obj} {cv pv : Option Value}
theorem st10 {D : Addr} {x : Str} {tx : Tok} {e tl : Addr} {kp : Int} {tk : Tok} {o : Str} {tO : Tok} {ys es ts : List Value} {zs : List Int} {k kt : Nat} {y : Str} {ty : Tok} (K0 : Below callerA h₀ [] h₀) (X : (hd.heap_39 w.params).In h₀) (S1 : Extra w h₀) (T : Top qv loose mean mg mb h₀)
    (F : Fr h₀ h₀.objs.size s.heap m) (hv_numbers : m (Str.ofString "numbers") = some (.ref D)) (hv_spelled : m (Str.ofString "spelled") = some (.str x tx)) (hv_ends : m (Str.ofString "ends") = some (.ref e)) (hv_told : m (Str.ofString "told") = some (.ref tl)) (hv_kept : m (Str.ofString "kept") = some (.int kp tk)) (hv_other : m (Str.ofString "other") = some (.str o tO))
    (N : News h₀ h₀.objs.size s.heap [(D, LCg.lst ys), (e, W.listOf es.toArray k), (tl, W.listOf ts.toArray kt), (h₀.objs.size + 1 + 1, oc), (h₀.objs.size + 1, op)]) (hp : op.data = .cell (some (.str y ty))) (hc : oc.data = .cell cv) (hyl : y.length ≤ 100)
    (hz : IntsAre es zs) (hez : es.length = zs.length) (hkp : 0 ≤ kp ∧ kp < (zs.length : Int)) (hzl : 1 ≤ zs.length ∧ zs.length ≤ 17) (hne : @Ne Nat D (h₀.objs.size + 1 + 1) ∧ @Ne Nat e (h₀.objs.size + 1 + 1) ∧ @Ne Nat tl (h₀.objs.size + 1 + 1))
    (ret : ∀ cu cs kc oc' h' tk' m', m' (Str.ofString "numbers") = some (.ref D) → m' (Str.ofString "spelled") = some (.str x tx) → m' (Str.ofString "ends") = some (.ref e) → m' (Str.ofString "told") = some (.ref tl) → m' (Str.ofString "other") = some (.str o tO) → Fr h₀ h₀.objs.size h' m' →
      News h₀ h₀.objs.size h' [(D, LCg.lst ys), (e, W.listOf es.toArray k), (tl, W.listOf ts.toArray kt), (cu, W.listOf cs.toArray kc), (h₀.objs.size + 1 + 1, oc'), (h₀.objs.size + 1, op)] → oc'.data = .cell (some (.ref cu)) → StrsV cs (o :: (zs.take (kp + 1).toNat).reverse.map fun z => Txt.slice y none (some z)) → Q .next { s with heap := h', toks := tk' }) :
    wpAny (model pg w) (lA h₀ fa cd) (exec (lawRec.body.tail.tail.tail.tail.tail.tail.tail.tail.tail.tail.headD nil0) (lenv h₀ fa cd)) Q E s := by
  unfold pg
  revert X
  k_fill
  intro X
  rw [put_same hv_numbers, put_same hv_spelled, put_same hv_ends, put_same hv_told, put_same hv_kept, put_same hv_other] at F
  unfold lA lenv lawRec lawRecOf
  dsimp only [List.tail_cons, List.headD_cons]
  walk1
  walk1
  walk1
  walk1
  walk1
  walk1
  walk1
  rename Fr _ _ _ _ => kF
  rename News _ _ _ _ => kN
  refine comp_cutsR (zs := (zs.take (kp + 1).toNat).reverse) (c := h₀.objs.size + 1) (op := op) kF kN (by k_mem) hp (by simp only [List.length_reverse, List.length_take]; omega) (by rfl) rfl (Nat.le_trans hyl (by decide)) (fun _ => rfl) ?_ (fun _ => rfl) ?_
  · k_steps
    all_goals (rename News _ _ _ _ => kN2; refine' ⟨_, _, _, _, _, rfl, rfl, ?i, ?l, rfl, ?f, fun p hp => kN2 p (by rcases List.mem_cons.mp hp with rfl | hp; exact .head _; exact .tail _ (.tail _ hp))⟩; (case i => assumption); (case f => k_asm); (case l => exact ints_len (by assumption)))
  · intro R rs kr h8 tk8 F8 N8 n8 S8
    (try simp only [AllNe, and_true] at n8)
    have hrl : rs.length ≤ 17 := by
      rw [strsV_len S8, List.length_map, List.length_reverse, List.length_take]
      omega
    refine add_lists (vs := [.str o tO]) (ws := rs) F8 N8 ⟨_, (N8 _ (.tail _ (.head _))).1, rfl, _, rfl⟩ ⟨_, (N8 _ (.head _)).1, rfl, _, rfl⟩ ?_ (by simp only [List.length_cons, List.length_nil, sizeLine_eq]; omega)
    intro h9 F9 N9
    have z1 : @LT.lt Nat _ (h₀.objs.size + 1 + 1) h8.objs.size := Heap.lt_size (N8 (h₀.objs.size + 1 + 1, oc) (by k_mem)).1
    k_steps
    rename News _ _ _ _ => kN2
    refine' ret h8.objs.size (.str o tO :: rs) 0 _ _ _ _ ?a0 ?a1 ?a2 ?a3 ?a4 ?f (fun p hp => ?n) ?d (.cons S8)
    case f => k_asm
    case d => assumption
    case n =>
      rcases List.mem_cons.mp hp with rfl | hp
      · exact kN2 _ (.tail _ (.tail _ (.tail _ (.head _))))
      rcases List.mem_cons.mp hp with rfl | hp
      · exact kN2 _ (.tail _ (.tail _ (.tail _ (.tail _ (.head _)))))
      rcases List.mem_cons.mp hp with rfl | hp
      · exact kN2 _ (.tail _ (.tail _ (.tail _ (.tail _ (.tail _ (.head _))))))
      rcases List.mem_cons.mp hp with rfl | hp
      · exact kN2 _ (.head _)
      · exact kN2 _ (.tail _ (.tail _ (.tail _ (.tail _ (.tail _ (.tail _ hp))))))
    all_goals (repeat (first | exact if_pos rfl | (refine Eq.trans (if_pos rfl) ?_; exact rfl) | refine Eq.trans (if_neg (by decide)) ?_))
end
end Mine
end
section
theorem Mine.begins_LB : True := by
  w_top off
  trivial
open PySem PySem.W PyProof.Rows
set_option maxRecDepth 100000
set_option maxHeartbeats 4000000
namespace Mine
/-- what a sign at place j adds to great -/
noncomputable def greatAt (j c : Nat) : List Nat := if c = 47 then [47] else [119808 + c - 97, (hiddenF ((j : Int).fmod 27)).toNat]
noncomputable def greatOf : List Nat → Nat → List Nat
  | [], _ => []
  | c :: r, j => greatAt j c ++ greatOf r (j + 1)
theorem greatOf_snoc : ∀ (l : List Nat) (j c : Nat), greatOf (l ++ [c]) j = greatOf l j ++ greatAt (j + l.length) c
  | [], j, c => by simp [greatOf]
  | a :: r, j, c => by
    rw [List.cons_append, greatOf, greatOf_snoc r, greatOf, List.append_assoc, List.length_cons]
    have : j + 1 + r.length = j + (r.length + 1) := by omega
    rw [this]
noncomputable def GJ (D e tl : Addr) (x : Str) (tx : Tok) (o : Str) (tO : Tok) (news : List (Addr × Obj)) (i : Nat) (m : Str → Option Value) (news' : List (Addr × Obj)) : Prop :=
  news' = news ∧ m (Str.ofString "numbers") = some (.ref D) ∧ m (Str.ofString "spelled") = some (.str x tx) ∧ m (Str.ofString "ends") = some (.ref e) ∧ m (Str.ofString "told") = some (.ref tl) ∧ m (Str.ofString "other") = some (.str o tO) ∧
    ∃ g tg, m (Str.ofString "great") = some (.str g tg) ∧ cl g = greatOf ((cl o).take i) 0 ∧ g.length ≤ 2 * i
theorem great_next {o g v : Str} {i c : Nat} (hc : o.cps[i]? = some c) (hg : cl g = greatOf ((cl o).take i) 0) (hv : cl v = greatAt i c) : cl (g ++ v) = greatOf ((cl o).take (i + 1)) 0 := by
  have hc' : (cl o)[i]? = some c := by rw [Array.getElem?_toList]; exact hc
  have hl : ((cl o).take i).length = i := by
    rw [List.length_take]
    have := (List.getElem?_eq_some_iff.mp hc').1
    omega
  rw [List.take_add_one, hc', Option.toList_some, greatOf_snoc, Nat.zero_add, hl, cl_append, hg, hv]
section
variable {w : World} {h₀ : Heap} {fa : Addr} {cd : Value} {m : Str → Option Value} {s : Shared} {Q : Flow → Shared → Prop} {E : Value → Shared → Prop} {loose : List Str} {mean : ExcName → Option Value} {mg mb : Str → Option Value} {oc op : Obj} {cv pv : Option Value}
theorem st11 {D e tl : Addr} {x o : Str} {tx tO : Tok} {news : List (Addr × Obj)} (K0 : Below callerA h₀ [] h₀) (X : (hd.heap_39 w.params).In h₀) (S1 : Extra w h₀) (T : Top qv loose mean mg mb h₀)
    (F : Fr h₀ h₀.objs.size s.heap m) (hv_numbers : m (Str.ofString "numbers") = some (.ref D)) (hv_spelled : m (Str.ofString "spelled") = some (.str x tx)) (hv_ends : m (Str.ofString "ends") = some (.ref e)) (hv_told : m (Str.ofString "told") = some (.ref tl)) (hv_other : m (Str.ofString "other") = some (.str o tO))
    (N : News h₀ h₀.objs.size s.heap news)
    (ret : ∀ h' tk' m', GJ D e tl x tx o tO news 0 m' news → Fr h₀ h₀.objs.size h' m' → News h₀ h₀.objs.size h' news → Q .next { s with heap := h', toks := tk' }) :
    wpAny (model pg w) (lA h₀ fa cd) (exec (lawRec.body.tail.tail.tail.tail.tail.tail.tail.tail.tail.tail.tail.headD nil0) (lenv h₀ fa cd)) Q E s := by
  unfold pg
  revert X
  k_fill
  intro X
  rw [put_same hv_numbers, put_same hv_spelled, put_same hv_ends, put_same hv_told, put_same hv_other] at F
  unfold lA lenv lawRec lawRecOf
  dsimp only [List.tail_cons, List.headD_cons]
  k_steps
  all_goals (refine' ret _ _ _ ⟨rfl, ?a0, ?a1, ?a2, ?a3, ?a4, _, _, ?a5, ?c, ?l⟩ ?f ?n; (case f => k_asm); (case n => k_asm); (case a0 => (repeat (first | exact if_pos rfl | (refine Eq.trans (if_pos rfl) ?_; exact rfl) | refine Eq.trans (if_neg (by decide)) ?_))); (case a1 => (repeat (first | exact if_pos rfl | (refine Eq.trans (if_pos rfl) ?_; exact rfl) | refine Eq.trans (if_neg (by decide)) ?_))); (case a2 => (repeat (first | exact if_pos rfl | (refine Eq.trans (if_pos rfl) ?_; exact rfl) | refine Eq.trans (if_neg (by decide)) ?_))); (case a3 => (repeat (first | exact if_pos rfl | (refine Eq.trans (if_pos rfl) ?_; exact rfl) | refine Eq.trans (if_neg (by decide)) ?_))); (case a4 => (repeat (first | exact if_pos rfl | (refine Eq.trans (if_pos rfl) ?_; exact rfl) | refine Eq.trans (if_neg (by decide)) ?_))); (case a5 => (repeat (first | exact if_pos rfl | (refine Eq.trans (if_pos rfl) ?_; exact rfl) | refine Eq.trans (if_neg (by decide)) ?_))); (case c => rfl); (case l => decide))
local macro_rules | `(tactic| walk_at "call ref") => `(tactic| (k_here; (with_reducible show wpAny _ _ (call (Value.ref 164) _) _ _ _); k_dflt (refine' PCl.useV (c_hidden _ _ _ ?q1 ?q2) ?k1 ?k2 ?k3 ?k4 ?k5 ?k6 ?k7 ?k8 ?k9 ?k10 ?k11 ?k12 ?_; (case k1 => k_asm); (case k2 => k_asm); (case k3 => k_asm); (case k4 => first | assumption | exact Extra.fr (by assumption) (by assumption)); (case k5 => k_asm); (case k6 => k_asm); (case k7 => exact rfl); (case k8 => exact rfl); (case k9 => exact rfl); (case k10 => first | exact rfl | assumption); (case k11 => ktr_room); (case k12 => ktr_units); (case q1 => omega); (case q2 => omega)); intro t9 h9 tk9 F9 N9; (try dsimp only); (try k_fold)))
local macro_rules | `(tactic| walk_at "call builtin:chr") => `(tactic| (k_here; (refine chr_of_range (by first | omega | exact (hidden_b _ (by omega) (by omega)).1) (by first | omega | exact Int.le_trans (hidden_b _ (by omega) (by omega)).2 (by decide)) ?_)))
theorem st12 {D e tl : Addr} {x o : Str} {tx tO : Tok} {news : List (Addr × Obj)} (K0 : Below callerA h₀ [] h₀) (X : (hd.heap_39 w.params).In h₀) (S1 : Extra w h₀) (T : Top qv loose mean mg mb h₀)
    (F : Fr h₀ h₀.objs.size s.heap m) (hJ : GJ D e tl x tx o tO news 0 m news) (hol : o.length ≤ 110) (hoc : ∀ c ∈ cl o, c = 47 ∨ (97 ≤ c ∧ c ≤ 122))
    (N : News h₀ h₀.objs.size s.heap news) (hE : PassesOwn (model pg w) (lA h₀ fa cd) (lenv h₀ fa cd) E)
    (ret : ∀ h' tk' m', GJ D e tl x tx o tO news (cl o).length m' news → Fr h₀ h₀.objs.size h' m' → News h₀ h₀.objs.size h' news → Q .next { s with heap := h', toks := tk' }) :
    wpAny (model pg w) (lA h₀ fa cd) (exec (lawRec.body.tail.tail.tail.tail.tail.tail.tail.tail.tail.tail.tail.tail.headD nil0) (lenv h₀ fa cd)) Q E s := by
  unfold pg
  revert X
  k_fill
  intro X
  have hJ0 := hJ
  obtain ⟨_, v1, v2, v3, v4, v5, g, tg, v6, hg, hgl⟩ := hJ
  rw [put_same v5] at F
  unfold lA lenv lawRec lawRecOf
  dsimp only [List.tail_cons, List.headD_cons]
  refine For_pair3F F rfl rfl rfl rfl ?_ (fun _ => rfl) hE
  walk1
  walk1
  walk1
  walk1
  walk1
  walk1
  refine call_enum_str rfl F N fun h9 e9 F9 N9 src => ?_
  refine PairSrcL.at src _ rfl _ _ _ _ (GJ D e tl x tx o tO news) ?_ ?_ ?_
  · exact ⟨rfl, by exact v1, by exact v2, by exact v3, by exact v4, by exact rfl, g, tg, by exact v6, hg, hgl⟩
  · rintro i a t v m₁ news₁ s₁ own ⟨h8, tk8, rfl⟩ ha hav ⟨rfl, u1, u2, u3, u4, u5, g1, tg1, u6, hg1, hgl1⟩ hk1 hown F₁ N₁
    obtain ⟨t', rfl⟩ := hav
    have hi : i < o.cps.size := by
      have := (List.getElem?_eq_some_iff.mp ha).1
      rwa [signs_length] at this
    have hc : o.cps[i]? = some o.cps[i] := by simp [hi]
    generalize o.cps[i] = c at hc
    obtain rfl : a = ⟨#[c]⟩ := by
      have := signs_get hc
      rw [ha] at this
      exact Option.some.inj this
    have hcc := hoc c (List.mem_of_getElem? (by rw [Array.getElem?_toList]; exact hc))
    have hi2 : i < 110 := by
      have : o.length = o.cps.size := rfl
      omega
    rw [put_same u5, put_same u6] at F₁
    clear F F9
    have r27 := fmod_rng (i : Int) (k := 27) (by decide)
    k_steps
    · have h47 : c = 47 := by
        rename (_ == Str.ofString "/") = true => hq
        have := eq_of_beq hq
        exact (Array.mk.inj (Str.mk.inj this) |> fun h => (List.cons.inj h).1)
      refine' ⟨rfl, by exact u1, by exact u2, by exact u3, by exact u4, by exact rfl, _, _, ?v, great_next (v := ⟨#[c]⟩) hc hg1 ?h, ?l⟩
      case v => (repeat (first | exact if_pos rfl | (refine Eq.trans (if_pos rfl) ?_; exact rfl) | refine Eq.trans (if_neg (by decide)) ?_))
      case h => rw [greatAt, if_pos h47, h47]
      case l =>
        rw [cl_len] at hgl1 ⊢
        rw [cl_append, List.length_append]
        have : (cl ⟨#[c]⟩).length = 1 := rfl
        omega
    · have h47 : c ≠ 47 := by
        rintro rfl
        first
          | (rename (_ == Str.ofString "/") = false => hq; exact absurd hq (by decide))
          | (rename ¬ ((_ == Str.ofString "/") = true) => hq; exact hq (by decide))
      refine' ⟨rfl, by exact u1, by exact u2, by exact u3, by exact u4, by exact rfl, _, _, ?v, great_next (v := ⟨#[(119808 + (c : Int) - 97).toNat]⟩ ++ ⟨#[(hiddenF ((i : Int).fmod 27)).toNat]⟩) hc hg1 ?h, ?l⟩
      case v => (repeat (first | exact if_pos rfl | (refine Eq.trans (if_pos rfl) ?_; exact rfl) | refine Eq.trans (if_neg (by decide)) ?_))
      case h =>
        rw [greatAt, if_neg h47, cl_append]
        have : (119808 + (c : Int) - 97).toNat = 119808 + c - 97 := by omega
        rw [this]
        rfl
      case l =>
        rw [cl_len] at hgl1 ⊢
        rw [cl_append, cl_append, List.length_append, List.length_append]
        have h1 : ∀ z : Nat, (cl ⟨#[z]⟩).length = 1 := fun _ => rfl
        rw [h1, h1]
        omega
  · rintro h' tk' m' news' F' N' hk' hJ'
    obtain rfl := hJ'.1
    have hsl : (signs o).length = (cl o).length := by rw [signs_length, cl_len]
    rw [hsl] at hJ'
    exact ret h' tk' m' hJ' F' N'
end
end Mine
end
section
open PySem PySem.W PyProof.Rows PySem.SeqAt
set_option maxRecDepth 100000
set_option maxHeartbeats 4000000
namespace Mine
theorem strsV_at {vs : List Value} {xs : List Str} (h : StrsV vs xs) : ∀ {i : Nat} {v : Value}, vs[i]? = some v → ∃ x t, xs[i]? = some x ∧ v = .str x t := by
  induction h with
  | nil => intro i v hv; simp at hv
  | cons h ih =>
    intro i v hv
    cases i with
    | zero => exact ⟨_, _, rfl, by simpa using hv.symm⟩
    | succ i => exact ih (by simpa using hv)
section
variable {prog : Program} {w : World} {A : Around} {s : Shared} {E : Value → Shared → Prop} {Q : Value → Shared → Prop} {l b : Addr} {vs us : List Value} {xs : List Str}
theorem strs_eqAt {A : Around} (h1 : StrsV vs xs) (h2 : StrsV us xs) : ∀ j (a : j < vs.toArray.size) (c : j < us.toArray.size), EqAt A s vs.toArray[j] us.toArray[j] true := by
  intro j a c
  have e1 : vs[j]? = some vs.toArray[j] := by simp at a; simp [a]
  have e2 : us[j]? = some us.toArray[j] := by simp at c; simp [c]
  obtain ⟨x, t, hx, ex⟩ := strsV_at h1 e1
  obtain ⟨y, u, hy, ey⟩ := strsV_at h2 e2
  rw [hx] at hy
  cases hy
  rw [ex, ey]
  have := EqAt.str_str (A := A) (s := s) x t x u
  rwa [beq_self_eq_true] at this
theorem ne_same (hl : s.heap.IsList l vs.toArray) (hb : s.heap.IsList b us.toArray) (h1 : StrsV vs xs) (h2 : StrsV us xs) (hu : A.units < cLine) (h : Q (.bool false) s) :
    wpAny (model prog w) A (compareOp .NotEq (.ref l) (.ref b)) Q E s := by
  have hz : vs.toArray.size = us.toArray.size := by simp only [List.size_toArray, strsV_len h1, strsV_len h2]
  refine RcNeAt.lists (e := fun _ => true) hl hb hz hu (strs_eqAt h1 h2) prog w E Q ?_
  have : (List.range vs.toArray.size).all (fun _ => true) = true := by simp
  rw [this]
  exact h
theorem eq_same (hl : s.heap.IsList l vs.toArray) (hb : s.heap.IsList b us.toArray) (h1 : StrsV vs xs) (h2 : StrsV us xs) (hu : A.units < cLine) (h : Q (.bool true) s) :
    wpAny (model prog w) A (compareOp .Eq (.ref l) (.ref b)) Q E s := by
  have hz : vs.toArray.size = us.toArray.size := by simp only [List.size_toArray, strsV_len h1, strsV_len h2]
  refine RcAt.lists (e := fun _ => true) hl hb hz hu (strs_eqAt h1 h2) prog w E Q ?_
  have : (List.range vs.toArray.size).all (fun _ => true) = true := by simp
  rw [this]
  exact h
end
end Mine
end
section
theorem Mine.begins_LD0 : True := by
  w_top off
  trivial
open PySem PySem.W PyProof.Rows PySem.SeqAt
set_option maxRecDepth 100000
set_option maxHeartbeats 4000000
namespace Mine
/-- all that a run over P yields -/
noncomputable def ancL (P : Str) (n : Nat) : List Str := (List.range n).map (pathAt P)
theorem strsV_of {xs : List Str} : ∀ {vs : List Value}, vs.length = xs.length → (∀ (j : Nat) (v : Value), vs[j]? = some v → ∃ (x : Str) (t : Tok), xs[j]? = some x ∧ v = Value.str x t) → StrsV vs xs := by
  induction xs with
  | nil =>
    intro vs hl _
    rw [List.length_eq_zero_iff.mp hl]
    exact .nil
  | cons x xs ih =>
    intro vs hl h
    cases vs with
    | nil => simp at hl
    | cons v vs =>
      obtain ⟨y, t, hy, rfl⟩ := h 0 v rfl
      have : x = y := by simpa using hy
      subst this
      exact .cons (ih (by simpa using hl) fun j u hj => h (j + 1) u (by simpa using hj))
theorem strs_items {P : Str} {n : Nat} {acc : Array Value} (h : ItemsOf (fun i v => ∃ t, v = .str (pathAt P i) t) acc n) : StrsV acc.toList (ancL P n) := by
  refine strsV_of (by simp [ancL, h.1]) fun j v hj => ?_
  have hj' : acc[j]? = some v := by rw [← Array.getElem?_toList]; exact hj
  obtain ⟨t, rfl⟩ := h.2 j v hj'
  have hlt : j < n := by
    have := (Array.getElem?_eq_some_iff.mp hj').1
    rw [h.1] at this; exact this
  exact ⟨_, t, by simp [ancL, hlt], rfl⟩
theorem gens_old {a b : Array GenState} {x : GenState} (h : GenOnlyQ a.size (a.push x) b) : ∀ (i : Nat) (gs : GenState), a[i]? = some gs → b[i]? = some gs := by
  intro i gs hi
  have hlt := (Array.getElem?_eq_some_iff.mp hi).1
  have hp : (a.push x)[i]? = some gs := by rw [Array.getElem?_push, if_neg (by omega)]; exact hi
  rcases h with rfl | ⟨h, _⟩
  · exact hp
  · exact (h.2 i (by omega)).trans hp
theorem list_anc {w : World} {A : Around} {env e2 : Env} {outer : List Env} {base : Heap} {P : Str} {tP : Tok} {n : Nat} {s : Shared} {Q E : Value → Shared → Prop} {loose : List Str} {mean : ExcName → Option Value} {mg mb : Str → Option Value} {p : Pos}
    (hf : A.frames = some (env :: outer)) (B : Below A base (env :: outer) s.heap) (hh : A.handled = none)
    (X : (hd.heap_39 w.params).In s.heap) (S1 : Extra w s.heap) (T : Top qv loose mean mg mb s.heap) (hd : A.depth + 6 < recursionLimit) (hu : A.units + 45 < cLine) (hY : Yields P n) (hP : P.length ≤ 4096) (hn : n ≤ 4096)
    (h : ∀ s2 N2 acc c2, Ext s.heap s2.heap → s.heap.get? N2 = none → s2.heap.get? N2 = some (W.listOf acc c2) → StrsV acc.toList (ancL P n) → (AllBare s.gens → AllBare s2.gens) → s2.drawn = s.drawn → s2.os = s.os → (∀ (i : Nat) (gs : GenState), s.gens[i]? = some gs → s2.gens[i]? = some gs) → Q (.ref N2) s2) :
    wpAny (model pg w) A (call (.ref 49) [.str P tP]) (fun v s₁ => wpAny (model pg w) A (spliced (backTo p (starEach [] e2))) (fun vs s₂ => wpAny (model pg w) A (call (Value.type "list") (v :: vs)) Q E s₂) E s₁) E s := by
  refine anc_call (n := n) X T (by omega) fun D1 h1 tk1 gs1 St hb1 hDL hn1 up1 => ?_
  walk1
  have hD : D1 < h1.objs.size := by
    obtain ⟨o, _, _, ho, _⟩ := St.gen
    exact Heap.lt_size ho
  refine anc_list ⟨hY, hP, hDL, hh, ⟨_, base, hf, B⟩, X, S1, ⟨_, _, _, _, T⟩, hd, by omega⟩ hu (by rw [sizeLine_eq]; omega) St hD fun s2 acc c2 N2 M hN2 hl2 hi2 => ?_
  have up : Ext s.heap s2.heap := fun b o e => M.heap b o (fun hm => by
    rcases List.mem_cons.mp hm with e1 | hm
    · have := up1 b o e
      rw [e1] at this
      rw [show h1.get? N2 = none from hN2] at this; cases this
    · rw [List.mem_singleton.mp hm] at e
      exact absurd (Heap.lt_size e) (Nat.lt_irrefl _)) (up1 b o e)
  refine h s2 N2 acc c2 up ?_ hl2 (strs_items hi2) (fun hb => (AllBare.push hb hb1).moved M.gens) M.drawn M.os (gens_old M.gens)
  cases e : s.heap.get? N2 with
  | none => rfl
  | some o =>
    have := up1 _ _ e
    rw [show h1.get? N2 = none from hN2] at this; cases this
end Mine
end
section
theorem Mine.begins_LD : True := by
  w_top off
  trivial
open PySem PySem.W PyProof.Rows PySem.SeqAt
set_option maxRecDepth 100000
set_option maxHeartbeats 4000000
namespace Mine
section
variable {w : World} {h₀ : Heap} {fa : Addr} {cd : Value} {m : Str → Option Value} {s : Shared} {Q : Flow → Shared → Prop} {E : Value → Shared → Prop} {loose : List Str} {mean : ExcName → Option Value} {mg mb : Str → Option Value} {oc op : Obj} {cv pv : Option Value}
local macro_rules | `(tactic| walk_at "call ref") => `(tactic| (k_here; (with_reducible show wpAny _ _ (call (Value.ref 176) _) _ _ _); k_dflt (refine' PCl.useV (c_prep _ _ _ ?q1) ?k1 ?k2 ?k3 ?k4 ?k5 ?k6 ?k7 ?k8 ?k9 ?k10 ?k11 ?k12 ?_; (case k1 => k_asm); (case k2 => k_asm); (case k3 => k_asm); (case k4 => first | assumption | exact Extra.fr (by assumption) (by assumption)); (case k5 => k_asm); (case k6 => k_asm); (case k7 => exact rfl); (case k8 => exact rfl); (case k9 => exact rfl); (case k10 => first | exact rfl | assumption); (case k11 => ktr_room); (case k12 => ktr_units); (case q1 => omega)); intro t9 h9 tk9 F9 N9; (try dsimp only); (try k_fold)))
theorem st13 {D e tl : Addr} {x o : Str} {tx tO : Tok} {news : List (Addr × Obj)} {i : Nat} {n : Nat} {ts : List Value} {kt : Nat} (K0 : Below callerA h₀ [] h₀) (X : (hd.heap_39 w.params).In h₀) (S1 : Extra w h₀) (T : Top qv loose mean mg mb h₀)
    (F : Fr h₀ h₀.objs.size s.heap m) (hJ : GJ D e tl x tx o tO news i m news) (N : News h₀ h₀.objs.size s.heap news) (htl : (tl, W.listOf ts.toArray kt) ∈ news) (hxl : x.length ≤ 200) (hY : Yields (prep x) n) (hpl : (prep x).length ≤ 4096) (hn : n ≤ 4096) (hts : StrsV ts (ancL (prep x) n))
    (ret : ∀ s' m', GJ D e tl x tx o tO news i m' news → Fr h₀ h₀.objs.size s'.heap m' → News h₀ h₀.objs.size s'.heap news → (AllBare s.gens → AllBare s'.gens) → s'.os = s.os → Q .next s') :
    wpAny (model pg w) (lA h₀ fa cd) (exec (lawRec.body.tail.tail.tail.tail.tail.tail.tail.tail.tail.tail.tail.tail.tail.headD nil0) (lenv h₀ fa cd)) Q E s := by
  unfold pg
  revert X
  k_fill
  intro X
  have hJ0 := hJ
  obtain ⟨_, v1, v2, v3, v4, v5, g, tg, v6, hg, hgl⟩ := hJ
  rw [put_same v2, put_same v4] at F
  unfold lA lenv lawRec lawRecOf
  dsimp only [List.tail_cons, List.headD_cons]
  k_steps
  rename Fr _ _ _ _ => kF
  rename News _ _ _ _ => kN
  have B1 := pushX (env := lenv h₀ fa cd) K0 kF rfl rfl
  refine list_anc (n := n) rfl B1 rfl (X.keeps kF.keep) (S1.fr kF) (T.keeps kF.keep) (by ktr_room) (by ktr_units) hY hpl hn fun s2 N2 acc c2 up hN2 hl2 hS2 hab hdr hos _ => ?_
  have F2 := kF.keeps up
  have N2' : News h₀ h₀.objs.size s2.heap news := fun p hp => ⟨up _ _ (kN p hp).1, (kN p hp).2⟩
  k_steps
  refine ne_same (vs := acc.toList) (us := ts) (xs := ancL (prep x) n) ⟨_, hl2, rfl, c2, by rw [Array.toArray_toList]⟩ ⟨_, (N2' _ htl).1, rfl, kt, rfl⟩ hS2 hts (by ktr_units) ?_
  k_steps
  exact ret _ _ ⟨rfl, by exact v1, by exact rfl, by exact v3, by exact rfl, by exact v5, g, tg, by exact v6, hg, hgl⟩ F2 N2' hab hos
end
end Mine
end
section
theorem Mine.begins_LE : True := by
  w_top off
  trivial
local macro_rules | `(tactic| walk_at "none") => `(tactic| fail)
open PySem PySem.W PyProof.Rows PySem.SeqAt
set_option maxRecDepth 100000
set_option maxHeartbeats 4000000
namespace Mine
section
variable {w : World} {h₀ : Heap} {fa : Addr} {cd : Value} {m : Str → Option Value} {s : Shared} {Q : Flow → Shared → Prop} {E : Value → Shared → Prop} {loose : List Str} {mean : ExcName → Option Value} {mg mb : Str → Option Value} {oc op : Obj} {cv pv : Option Value}
local macro_rules | `(tactic| walk_at "call ref") => `(tactic| (k_here; (with_reducible show wpAny _ _ (call (Value.ref 176) _) _ _ _); k_dflt (refine' PCl.useV (c_prep _ _ _ ?q1) ?k1 ?k2 ?k3 ?k4 ?k5 ?k6 ?k7 ?k8 ?k9 ?k10 ?k11 ?k12 ?_; (case k1 => k_asm); (case k2 => k_asm); (case k3 => k_asm); (case k4 => first | assumption | exact Extra.fr (by assumption) (by assumption)); (case k5 => k_asm); (case k6 => k_asm); (case k7 => exact rfl); (case k8 => exact rfl); (case k9 => exact rfl); (case k10 => first | exact rfl | assumption); (case k11 => ktr_room); (case k12 => ktr_units); (case q1 => omega)); intro t9 h9 tk9 F9 N9; (try dsimp only); (try k_fold)))
theorem st15 {D e tl : Addr} {x o : Str} {tx tO : Tok} {news : List (Addr × Obj)} {i : Nat} {n : Nat} {cu : Addr} {g0 : Str} {tg0 : Tok} {cs : List Value} {kc : Nat} (K0 : Below callerA h₀ [] h₀) (X : (hd.heap_39 w.params).In h₀) (S1 : Extra w h₀) (T : Top qv loose mean mg mb h₀)
    (F : Fr h₀ h₀.objs.size s.heap m) (hJ : GJ D e tl x tx o tO news i m news) (N : News h₀ h₀.objs.size s.heap news) (hcu : (cu, W.listOf cs.toArray kc) ∈ news) (hoc : (h₀.objs.size + 1 + 1, oc) ∈ news) (hcd2 : oc.data = .cell (some (.ref cu))) (hv6 : m (Str.ofString "great") = some (.str g0 tg0)) (hxl : g0.length ≤ 400) (hY : Yields (prep g0) n) (hpl : (prep g0).length ≤ 4096) (hn : n ≤ 4096) (hts : StrsV cs (ancL (prep g0) n))
    (ret : ∀ s' m', GJ D e tl x tx o tO news i m' news → m' (Str.ofString "great") = some (.str g0 tg0) → Fr h₀ h₀.objs.size s'.heap m' → News h₀ h₀.objs.size s'.heap news → (AllBare s.gens → AllBare s'.gens) → s'.os = s.os → Q .next s') :
    wpAny (model pg w) (lA h₀ fa cd) (exec (lawRec.body.tail.tail.tail.tail.tail.tail.tail.tail.tail.tail.tail.tail.tail.tail.tail.headD nil0) (lenv h₀ fa cd)) Q E s := by
  unfold pg
  revert X
  k_fill
  intro X
  have hJ0 := hJ
  obtain ⟨_, v1, v2, v3, v4, v5, g, tg, v6, hg, hgl⟩ := hJ
  rw [put_same hv6] at F
  unfold lA lenv lawRec lawRecOf
  dsimp only [List.tail_cons, List.headD_cons]
  k_steps
  rename Fr _ _ _ _ => kF
  rename News _ _ _ _ => kN
  have B1 := pushX (env := lenv h₀ fa cd) K0 kF rfl rfl
  refine list_anc (n := n) rfl B1 rfl (X.keeps kF.keep) (S1.fr kF) (T.keeps kF.keep) (by ktr_room) (by ktr_units) hY hpl hn fun s2 N2 acc c2 up hN2 hl2 hS2 hab hdr hos _ => ?_
  have F2 := kF.keeps up
  have N2' : News h₀ h₀.objs.size s2.heap news := fun p hp => ⟨up _ _ (kN p hp).1, (kN p hp).2⟩
  k_steps
  refine ne_same (vs := acc.toList) (us := cs) (xs := ancL (prep g0) n) ⟨_, hl2, rfl, c2, by rw [Array.toArray_toList]⟩ ⟨_, (N2' _ hcu).1, rfl, kc, rfl⟩ hS2 hts (by ktr_units) ?_
  k_steps
  exact ret _ _ ⟨rfl, by exact v1, by exact v2, by exact v3, by exact v4, by exact v5, g, tg, by exact hv6.symm.trans v6, hg, hgl⟩ rfl F2 N2' hab hos
end
end Mine
end
section
theorem Mine.begins_LF : True := by
  w_top off
  trivial
open PySem PySem.W PyProof.Rows PySem.SeqAt
set_option maxRecDepth 100000
set_option maxHeartbeats 4000000
namespace Mine
noncomputable def pathScope : Scope := { kind := .function, names := [(Str.ofString ".0", .local), (Str.ofString "path", .local), (Str.ofString "_law_prepared", .globalImplicit)], isGenerator := false, isCoroutine := false }
section
variable {w : World} {A A₀ : Around} {base h₀ : Heap} {L : Addr} {m : Str → Option Value} {env : Env} {outer : List Env} {loose : List Str} {mean : ExcName → Option Value} {mg mb : Str → Option Value} {C : Addr} {P : Str} {t : Tok} {s : Shared} {m₃ : Str → Option Value} {E : Value → Shared → Prop} {p1 p2 p3 p4 : Pos}
theorem el_prep (I : InB w A A₀ base h₀ L m env outer loose mean mg mb 6 40) (F : Fr h₀ L s.heap m) (hn : s.heap.Ns C m₃) (hm : m₃ (Str.ofString "path") = some (.str P t)) (hg : env.globals = mainGlobals) (hP : P.length ≤ 65536) :
    wpAny (model pg w) A (eval (.Call (.Name (Str.ofString "_law_prepared") p1) [.Name (Str.ofString "path") p2] [] p3) (compEnvC pathScope [] C env))
      (fun y s₄ => (∃ u, y = .str (prep P) u) ∧ Keeps s s₄) E s := by
  unfold pg
  obtain ⟨B, X, S1, T, hh, hA, hf, hk, hd, hu⟩ := I
  revert X
  k_fill
  intro X
  have cE' := InElt.start s.heap
  walk1
  k_dflt (refine' nameG_K F X (topRead_of T) ?e ?_ hg ?k ?x ?d; (case k => exact rfl); (case x => exact rfl); (case d => decide); (case e => k_is))
  walk1
  walk1
  k_dflt (refine wpAny_Name (wpAny_loadName_local (by rfl) (by rfl) hn hm ?_) (by decide))
  walk1
  refine ⟨X.keeps F.keep, ?_⟩
  refine (c_prep w P t hP).useK B F X S1 T hh hA hf hk hd hu fun t' h' tk' F' k => ?_
  exact ⟨⟨_, rfl⟩, h', tk', rfl, k⟩
end
end Mine
end
section
theorem Mine.begins_LG : True := by
  w_top off
  trivial
local macro_rules | `(tactic| walk_at "none") => `(tactic| fail)
open PySem PySem.W PyProof.Rows PySem.SeqAt
set_option maxRecDepth 100000
set_option maxHeartbeats 4000000
namespace Mine
section
variable {w : World} {h₀ : Heap} {fa : Addr} {cd : Value} {m : Str → Option Value} {s : Shared} {Q : Flow → Shared → Prop} {E : Value → Shared → Prop} {loose : List Str} {mean : ExcName → Option Value} {mg mb : Str → Option Value} {oc op : Obj} {cv pv : Option Value}
theorem st14 {D e tl : Addr} {x o : Str} {tx tO : Tok} {news : List (Addr × Obj)} {i : Nat} {n : Nat} {ts : List Value} {kt : Nat} (K0 : Below callerA h₀ [] h₀) (X : (hd.heap_39 w.params).In h₀) (S1 : Extra w h₀) (T : Top qv loose mean mg mb h₀)
    (F : Fr h₀ h₀.objs.size s.heap m) (hJ : GJ D e tl x tx o tO news i m news) (N : News h₀ h₀.objs.size s.heap news) (htl : (tl, W.listOf ts.toArray kt) ∈ news) (hxl : x.length ≤ 200) (hY : Yields x n) (hn : n ≤ 4096) (hts : StrsV ts ((ancL x n).map prep))
    (ret : ∀ s' m', GJ D e tl x tx o tO news i m' news → Fr h₀ h₀.objs.size s'.heap m' → News h₀ h₀.objs.size s'.heap news → (AllBare s.gens → AllBare s'.gens) → s'.os = s.os → Q .next s') :
    wpAny (model pg w) (lA h₀ fa cd) (exec (lawRec.body.tail.tail.tail.tail.tail.tail.tail.tail.tail.tail.tail.tail.tail.tail.headD nil0) (lenv h₀ fa cd)) Q E s := by
  unfold pg
  revert X
  k_fill
  intro X
  have hJ0 := hJ
  obtain ⟨_, v1, v2, v3, v4, v5, g, tg, v6, hg, hgl⟩ := hJ
  rw [put_same v2, put_same v4] at F
  unfold lA lenv lawRec lawRecOf
  dsimp only [List.tail_cons, List.headD_cons]
  walk1
  walk1
  refine compS (G := GenOnlyQ s.gens.size) (cl := []) (fun i v => ∃ t, v = .str (prep (pathAt x i)) t) (by rfl) (by decide) rfl (by decide) (by rfl) ?_ (fun _ => rfl)
  k_steps
  have B1 := pushX (env := lenv h₀ fa cd) K0 F rfl rfl
  refine anc_call (n := n) (X.keeps F.keep) (T.keeps F.keep) (by ktr_room) fun D1 h1 tk1 gs1 St hb1 hDL hn1 up1 => ?_
  refine wpAny_pyIter_gen St.gen ?_
  have hD : D1 < h1.objs.size := by
    obtain ⟨o, _, _, ho, _⟩ := St.gen
    exact Heap.lt_size ho
  have hLg : s.heap.objs.size < h1.objs.size := by
    obtain ⟨_, _, Fg, _⟩ := St.fr
    exact Fg.ns.lt
  have CC : AncC w (lA h₀ fa cd) s.heap x D1 s.heap.objs.size n := ⟨hY, Nat.le_trans hxl (by decide), hDL, rfl, ⟨_, h₀, rfl, B1⟩, X.keeps F.keep, S1.fr F, ⟨_, _, _, _, T.keeps F.keep⟩, by ktr_room, by ktr_units⟩
  refine ⟨D1, _, _, n, _, _, rfl, CC.walks (gi := s.gens.size), by rw [sizeLine_eq]; omega, ⟨Nat.zero_le _, St⟩, ?_, ?_, ?_⟩
  · intro b hb
    rcases List.mem_cons.mp hb with rfl | hb
    · exact hD
    · rcases List.mem_cons.mp hb with rfl | hb
      · exact hLg
      · exact Nat.lt_trans (List.mem_range.mp hb) hLg
  · rintro C j v s₃ m₃ E' _ hj ⟨t, rfl⟩ hn3 hm3 hk
    have up3 : Ext s.heap s₃.heap := fun b o e => hk b o (fun hm => absurd (Heap.lt_size e) (by rw [List.mem_singleton.mp hm]; exact Nat.lt_irrefl _)) (up1 b o e)
    have F3 := F.keeps up3
    have hpl : (pathAt x j).length ≤ 65536 := Nat.le_trans (pathAt_len x j) (Nat.le_trans hxl (by decide))
    refine wpAny_mono (el_prep (A₀ := callerA) (base := h₀) (h₀ := h₀) (outer := []) ⟨K0, X, S1, T, rfl, rfl, rfl, rfl, by ktr_room, by ktr_units⟩ F3 hn3 hm3 rfl hpl) (fun y s4 h => h) fun _ _ e => e
  · intro R s2 ys hR ⟨kr, hpl⟩ hF M
    have up : Ext s.heap s2.heap := fun b o e => M.heap b o (fun hm => absurd (Heap.lt_size e) (by rw [List.mem_singleton.mp hm]; exact Nat.lt_irrefl _)) (up1 b o e)
    have F2 := F.keeps up
    have N2 : News h₀ h₀.objs.size s2.heap news := fun p hp => ⟨up _ _ (N p hp).1, (N p hp).2⟩
    have hS : StrsV ys.toList ((ancL x n).map prep) := by
      refine strsV_of (by simp [ancL, hF.1]) fun j v hj => ?_
      have hj' : ys[j]? = some v := by rw [← Array.getElem?_toList]; exact hj
      obtain ⟨t, rfl⟩ := hF.2 j v hj'
      have hlt : j < n := by
        have := (Array.getElem?_eq_some_iff.mp hj').1
        rw [hF.1] at this; exact this
      exact ⟨_, t, by simp [ancL, hlt], rfl⟩
    have hab : AllBare s.gens → AllBare s2.gens := fun hb => (AllBare.push hb hb1).moved M.gens
    have hos : s2.os = s.os := M.os
    clear M
    k_steps
    refine ne_same (vs := ys.toList) (us := ts) (xs := (ancL x n).map prep) ⟨_, hpl, rfl, kr, by rw [Array.toArray_toList]⟩ ⟨_, (N2 _ htl).1, rfl, kt, rfl⟩ hS hts (by ktr_units) ?_
    k_steps
    exact ret _ _ ⟨rfl, by exact v1, by exact rfl, by exact v3, by exact rfl, by exact v5, g, tg, by exact v6, hg, hgl⟩ F2 N2 hab hos
end
end Mine
end
section
open PySem PySem.W PyProof.Rows
set_option maxRecDepth 100000
set_option maxHeartbeats 4000000
namespace Mine
section
variable {prog : Program} {w : World} {A : Around} {R : Result → Shared → Prop} {E : Value → Shared → Prop}
/-- what a set of strs holds after i of the list's items -/
noncomputable def hasUpto (xs : List Str) (i : Nat) (k : Str) : Bool := (xs.take i).any (· == k)
theorem hasUpto_zero (xs : List Str) (k : Str) : hasUpto xs 0 k = false := rfl
theorem hasUpto_succ {xs : List Str} {i : Nat} {x : Str} (h : xs[i]? = some x) (k : Str) : hasUpto xs (i + 1) k = (hasUpto xs i k || decide (k = x)) := by
  unfold hasUpto
  rw [List.take_add_one, h, Option.toList_some, List.any_append, List.any_cons, List.any_nil, Bool.or_false]
  congr 1
  rw [Bool.eq_iff_iff, beq_iff_eq, decide_eq_true_eq]
  exact eq_comm
theorem hasUpto_all (xs : List Str) (k : Str) : hasUpto xs xs.length k = xs.any (· == k) := by
  unfold hasUpto; rw [List.take_length]
/-- the loop that fills a set out of a walk of strs -/
theorem fill_strs {I S : Addr} {fp wr : List Addr} {G : Array GenState → Array GenState → Prop} {xs : List Str} {P : Nat → Value → Prop} {St : Nat → Shared → Prop}
    (W : WalksS prog w A.in1 I fp wr G xs.length P St) (hSf : S ∉ fp) (hval : ∀ i v, P i v → ∃ x t, xs[i]? = some x ∧ v = .str x t) (hb : xs.length + 1 < scanBound) :
    ∀ (k i n : Nat) (s : Shared), xs.length - i = k → i ≤ xs.length → n ≤ i → St i s → s.heap.SetOf (strKind prog w) S (hasUpto xs i) n →
      (∀ s' n', Moved (S :: wr) G s s' → n' ≤ xs.length → s'.heap.SetOf (strKind prog w) S (hasUpto xs xs.length) n' → R (.ok (.ret .none)) s') →
      codeAny (model prog w) A (.builtin "set.update.loop" ⟨[.ref S, .ref I], []⟩) R s := by
  have hSw : S ∉ wr := fun h => hSf (W.sub _ h)
  have keep : ∀ {h h' : Heap} {f : Str → Bool} {n : Nat}, (∀ b o, b ∉ wr → h.get? b = some o → h'.get? b = some o) → h.SetOf (strKind prog w) S f n → h'.SetOf (strKind prog w) S f n := fun hm h =>
    let ⟨o, es, ep, t, ho, rest⟩ := h
    ⟨o, es, ep, t, hm S _ hSw ho, rest⟩
  intro k
  induction k with
  | zero =>
    intro i n s hk hi hn hst hS hR
    obtain rfl : i = xs.length := by omega
    refine codeAny_builtin F.entry_set_update_loop ?_
    rw [Around.under_plainId F.plain_set_update_loop _]
    show wpAny _ A.in1 (pyNext (.ref I) >>= _) _ _ s
    refine wpAny_bind (W.done s _ _ hst fun s' hm => ?_)
    exact wpAny_pure (hR s' n (hm.mono fun b hb => .tail _ hb) hn (keep hm.heap hS))
  | succ k ih =>
    intro i n s hk hi hn hst hS hR
    have hlt : i < xs.length := by omega
    refine codeAny_builtin F.entry_set_update_loop ?_
    rw [Around.under_plainId F.plain_set_update_loop _]
    show wpAny _ A.in1 (pyNext (.ref I) >>= _) _ _ s
    refine wpAny_bind (W.item i s _ _ hlt hst fun v s' hP hst' hm => ?_)
    obtain ⟨x, t, hx, rfl⟩ := hval i v hP
    show wpAny _ A.in1 (holding [Value.str x t] (setAdd S (.str x t)) >>= _) _ _ s'
    refine wpAny_bind (wpAny_holding ?_)
    unfold setAdd
    refine wpAny_holding (wpAny_bind ((strKind prog w).pyHash (k := x) (strKind_is _ _ _ _) ?_))
    refine wpAny_setAddHashed_of (knd := strKind prog w) (s := { s' with toks := s'.toks + 1 }) (strKind_is _ _ _ _) rfl (keep hm.heap hS) (by omega) fun h' hsb hS2 => ?_
    have hS3 : h'.SetOf (strKind prog w) S (hasUpto xs (i + 1)) (if hasUpto xs i x then n else n + 1) := by
      have : hasUpto xs (i + 1) = fun k' => hasUpto xs i k' || decide (k' = x) := funext fun k' => hasUpto_succ hx k'
      rw [this]; exact hS2
    have ne : ∀ b o, b ≠ S → s'.heap.get? b = some o → h'.get? b = some o := fun b o hb e => (hsb.2 b hb).trans e
    refine wpAny_pure ⟨plainId_quiet F.plain_set_update_loop _, ih (i + 1) _ _ (by omega) hlt (by split <;> omega) (W.frame _ s' _ _ hst' (Nat.le_succ _) fun b hb o e => ne b o (fun h => hSf (h ▸ hb)) e) hS3 fun s'' n' hm'' hn' hS'' => ?_⟩
    exact hR s'' n' (Moved.trans W.gtrans ((hm.mono fun b hb => .tail _ hb).then_heap (Nat.le_succ _) fun b o hb e => ne b o (fun h => hb (h ▸ .head _)) e) hm'') hn' hS''
end
section
variable {prog : Program} {w : World} {A : Around} {E : Value → Shared → Prop} {s : Shared}
noncomputable abbrev newSetO (led : Bool) : Obj := { cls := .type "set", dict := none, data := .set #[] 0 (.fresh 0 0 led) }
/-- set(x): its new, then its init -/
theorem call_set1 {a : Value} {Q Q₁ : Value → Shared → Prop} (hnew : codeAny (model prog w) A.in1 (.call (.builtin "set.__new__") ⟨[.type "set", a], []⟩) (wants Q₁ E) s)
    (hnext : ∀ obj s₁, Q₁ obj s₁ → s₁.TypeIs obj "set" ∧ codeAny (model prog w) A.in1 (.call (.builtin "set.__init__") ⟨[obj, a], []⟩) (wants (fun r s₂ => r = .none ∧ Q obj s₂) E) s₁) :
    wpAny (model prog w) A (call (.type "set") [a]) Q E s := by
  obtain ⟨c, tl, hmro⟩ := F.called_set.mro
  have hmade := F.called_set.made
  have hsub := F.called_set.sub
  have h1 := F.called_set.notType
  have h2 := F.called_set.canCreate
  have hct := F.typeCall_set_1 a
  refine wpAny_call (codeAny_of_tree ?_)
  show wpAny _ _ (callAny (.type "set") _) _ _ _
  refine wpAny_pure ⟨Code.quiet_builtin _ (by decide +kernel), codeAny_builtin F.entry_type_call ?_⟩
  rw [Around.under_plain (weight_type_call_type "set" [a] []) rfl]
  repeat (any_goals (first | (with_reducible assumption) | wp_step))
  refine codeAny_mono hnew fun r s₁ hr => ?_
  cases r with
  | error e => exact hr
  | ok fl =>
    cases fl with
    | ret obj =>
      obtain ⟨hT, hsi⟩ := hnext _ _ hr
      have hli := F.called_set.init.lookup
      have hbi := F.called_set.init.bind obj
      repeat (any_goals (first | (with_reducible assumption) | wp_step))
      refine codeAny_mono hsi fun r₂ s₂ hr₂ => ?_
      cases r₂ with
      | error e => exact hr₂
      | ok fl₂ =>
        cases fl₂ with
        | ret r =>
          obtain ⟨rfl, hq⟩ := hr₂
          repeat (any_goals (first | (with_reducible assumption) | wp_step))
        | _ => exact hr₂.elim
    | _ => exact hr.elim
end
section
variable {prog : Program} {w : World} {A : Around} {E : Value → Shared → Prop} {s : Shared}
/-- set.__init__ of a fresh set over a list -/
theorem set_init {S l : Addr} {led : Bool} {ol : Obj} {P : PySem.Fin → Shared → Prop} (hS : s.heap.get? S = some (newSetO led)) (hl : s.heap.get? l = some ol) (hc : ol.cls = .type "list")
    (h : wpAny (model prog w) A (pyIter (.ref l)) (fun it s₁ => wpAny (model prog w) A (runValue (.builtin "set.update.loop" ⟨[.ref S, it], []⟩)) (fun _ s₂ => P (.done (.ret .none)) s₂) E s₁) E s) :
    wpAny (model prog w) A (Builtin.«set.__init__» ⟨[.ref S, .ref l], []⟩) P E s := by
  obtain ⟨lc, ld, ldt, lsl⟩ := ol
  dsimp only at hc
  subst hc
  have hT : s.TypeIs (.ref S) "set" := ⟨_, hS, rfl⟩
  have hsls := F.sub_list_set
  have hslf := F.sub_list_frozenset
  have hne : (Value.type "list" == Value.type "dict") = false := by decide
  unfold Builtin.«set.__init__» noKeywords Builtin.Frozenset.updateFrom
  generalize hPI : pyIter = PI at h ⊢
  generalize hRV : runValue = RV at h ⊢
  wp_walk
  refine wpAny_mono h (fun it s₁ h₁ => wpAny_bind (wpAny_mono h₁ (fun _ s₂ h₂ => ?_) fun _ _ e => e)) fun _ _ e => e
  exact wpAny_pure (wpAny_pure h₂)
/-- set(a list of strs) -/
theorem set_strs {l : Addr} {vs : List Value} {xs : List Str} {Q : Value → Shared → Prop} (hh : A.handled = none) (hl : s.heap.IsList l vs.toArray)
    (hx : ∀ (i : Nat) (v : Value), vs[i]? = some v → ∃ (x : Str) (t : Tok), xs[i]? = some x ∧ v = Value.str x t) (hlen : vs.length = xs.length) (hb : xs.length + 1 < scanBound)
    (h : ∀ h' tk n, n ≤ xs.length → h'.SetOf (strKind prog w) s.heap.objs.size (hasUpto xs xs.length) n → (∀ b o, s.heap.get? b = some o → h'.get? b = some o) → Q (.ref s.heap.objs.size) { s with heap := h', toks := tk }) :
    wpAny (model prog w) A (call (.type "set") [.ref l]) Q E s := by
  refine call_set1 (Q₁ := fun obj s₁ => ∃ led : Bool, obj = .ref s.heap.objs.size ∧ s₁ = { s with heap := s.heap.push (newSetO led) }) (code_set_new_1 (.ref l) fun led => ⟨led, rfl, rfl⟩) ?_
  rintro obj s₁ ⟨led, rfl, rfl⟩
  generalize hH : s.heap.push (newSetO led) = H
  have hS : H.get? s.heap.objs.size = some (newSetO led) := hH ▸ Heap.get?_push_size _ rfl
  have hsz : H.objs.size = s.heap.objs.size + 1 := by rw [← hH, Heap.size_push]
  have old : ∀ b o, s.heap.get? b = some o → H.get? b = some o := fun b o e => hH ▸ Heap.get?_push_of_some _ e
  have hT : Shared.TypeIs { s with heap := H } (.ref s.heap.objs.size) "set" := ⟨_, hS, rfl⟩
  refine ⟨hT, codeAny_call_builtin F.called_set.init.plain F.entry_set_init (check_set_init_1 hT ?_)⟩
  obtain ⟨ol, hol, hcl, nl, hdl⟩ := hl
  have hl1 : H.IsList l vs.toArray := ⟨ol, old _ _ hol, hcl, nl, hdl⟩
  refine set_init hS (old _ _ hol) hcl ?_
  refine wpAny_pyIter_list hl1 (wpAny_runValue ?_)
  have hlS : l < s.heap.objs.size := Heap.lt_size hol
  have hneI : l ≠ H.objs.size := by rw [hsz]; exact Nat.ne_of_lt (Nat.lt_succ_of_lt hlS)
  have hSf : s.heap.objs.size ∉ [H.objs.size, l] := by
    rw [hsz]
    simp only [List.mem_cons, List.not_mem_nil, or_false, not_or]
    exact ⟨Nat.ne_of_lt (Nat.lt_succ_self _), Nat.ne_of_gt hlS⟩
  have W := (Walks.list (prog := prog) (w := w) (A := A.in1.in1.in1) hh H.objs.size l hneI vs.toArray).toS
  rw [show vs.toArray.size = xs.length by rw [List.size_toArray, hlen]] at W
  refine fill_strs W hSf (fun i v hv => hx i v (by simpa using hv)) hb xs.length 0 0 _ (by omega) (Nat.zero_le _) (Nat.le_refl _) ⟨⟨_, Heap.get?_push_size _ rfl, rfl, rfl⟩, hl1.push _⟩ ?_ ?_
  · exact (setObjOf_fresh (knd := strKind prog w) led).setOf (Heap.get?_push_of_some _ hS) (by unfold scanBound; omega)
  · rintro ⟨h', g', d', tk', os'⟩ n' hm hn' hS'
    obtain rfl : g' = s.gens := hm.gens
    obtain rfl : d' = s.drawn := hm.drawn
    obtain rfl : os' = s.os := hm.os
    have up : ∀ b o, s.heap.get? b = some o → h'.get? b = some o := fun b o e => by
      have hb := Heap.lt_size e
      refine hm.heap b o ?_ (Heap.get?_push_of_some _ (old b o e))
      simp only [List.mem_cons, List.not_mem_nil, or_false, not_or]
      exact ⟨Nat.ne_of_lt hb, by rw [hsz]; exact Nat.ne_of_lt (Nat.lt_succ_of_lt hb)⟩
    exact ⟨rfl, h _ _ n' hn' hS' up⟩
end
end Mine
end
section
open PySem PySem.W PyProof.Rows PySem.SeqAt
set_option maxRecDepth 100000
set_option maxHeartbeats 4000000
namespace Mine
theorem lk_contains : typeLookup (.type "set") "__contains__" = pure (some (.builtin "set.__contains__")) := by rw [typeLookup_type, builtinLookup_eq_fast]; kernel_rfl
theorem type_contains : typeOf (.builtin "set.__contains__") = pure (.type "method_descriptor") := by show builtinType _ = _; rw [builtinType_eq_fast]; kernel_rfl
theorem slot_mget : Slot "method_descriptor" "__get__" "method_descriptor.__get__" :=
  .of (owner := "method_descriptor") (n := "__get__") (by rw [typeLookup_type, builtinLookup_eq_fast]; kernel_rfl) (by decide +kernel) (by decide +kernel) (by decide +kernel)
    (by first | exact .inl (by decide +kernel) | exact .inr (by decide +kernel)) (by rw [isSubtype_type]; kernel_rfl)
theorem no_mset : typeLookup (.type "method_descriptor") "__set__" = pure none := by rw [typeLookup_type, builtinLookup_eq_fast]; kernel_rfl
theorem no_mdel : typeLookup (.type "method_descriptor") "__delete__" = pure none := by rw [typeLookup_type, builtinLookup_eq_fast]; kernel_rfl
theorem entry_mget : entryFor table "method_descriptor.__get__" = some Builtin.«method_descriptor.__get__» := entryFor_of_tree (by kernel_rfl)
theorem args_mget (a b c : Value) : argsOk "method_descriptor.__get__" ⟨[a, b, c], []⟩ := by unfold argsOk; kernel_rfl
theorem owner_contains : (kfb_private% "ownerAndName") "set.__contains__" = ("set", "__contains__") := by first | decide +kernel | kernel_rfl
theorem entry_set_ga : entryFor table "set.__getattribute__" = some Builtin.«object.__getattribute__» :=
  entryFor_alias (id' := "object.__getattribute__") (by kernel_rfl) (by first | rfl | decide +kernel) (by decide +kernel) (by kernel_rfl)
theorem sub_set_set : isSubtype (.type "set") (.type "set") = pure true := by rw [isSubtype_type]; kernel_rfl
theorem told_contains : (Manifest.toldItsClass.contains "set.__contains__") = false := by decide +kernel
noncomputable abbrev boundO (S : Addr) : Obj := { cls := .type "builtin_function_or_method", data := .fields #[.builtin "set.__contains__", .ref S] }
theorem chk_contains (S : Addr) : (kfb_private% "checkInstance") (.builtin "set.__contains__") (.ref S) = (do
    let (name, cls) := (Str.ofString "__contains__", Value.type "set")
    if !(← isInstance (.ref S) cls) then
      rule "descr.get.wrong-instance"
      raiseError "TypeError" s!"descriptor '{name.toString}' for '{← typeName cls}' objects doesn't apply to a '{← typeNameOf (.ref S)}' object") := by kernel_rfl
section
variable {prog : Program} {w : World} {A : Around} {E : Value → Shared → Prop} {s : Shared} {S : Addr}
theorem run_mget {P : Fin → Shared → Prop} (hT : s.TypeIs (.ref S) "set") (h : P (.done (.ret (.ref s.heap.objs.size))) { s with heap := s.heap.push (boundO S) }) :
    wpAny (model prog w) A (Builtin.«method_descriptor.__get__» ⟨[.builtin "set.__contains__", .ref S, .type "set"], []⟩) P E s := by
  have hsub := sub_set_set
  unfold Builtin.«method_descriptor.__get__»
  refine wpAny_bind (wpAny_of_eq (a := (.builtin "set.__contains__", some (.ref S), some (.type "set"))) (by first | rfl | kernel_rfl) ?_)
  dsimp only
  simp only [told_contains, Bool.false_eq_true, if_false]
  show wpAny _ _ ((kfb_private% "checkInstance") (.builtin "set.__contains__") (.ref S) >>= fun _ => newFields "builtin_function_or_method" [.builtin "set.__contains__", .ref S] >>= fun v => ret v) _ _ _
  refine wpAny_bind ?_
  rw [chk_contains]
  refine wpAny_bind (wpAny_isInstance hT hsub ?_)
  simp only [Bool.not_true, Bool.false_eq_true, if_false]
  refine wpAny_pure ?_
  exact wpAny_bind (wpAny_newObj_type (wpAny_pure h))
theorem ga_contains {tk : Tok} {es : Array (Int × Value)} {ep : Nat} {tb : SetTable} {Q : PySem.Fin → Shared → Prop} (ho : s.heap.get? S = some ⟨.type "set", none, .set es ep tb, #[]⟩) (h : Q (.done (.ret (.ref s.heap.objs.size))) { s with heap := s.heap.push (boundO S) }) :
    wpAny (model prog w) A (Builtin.«object.__getattribute__» ⟨[.ref S, .str "__contains__" tk], []⟩) Q E s := by
  have hT : s.TypeIs (.ref S) "set" := ⟨_, ho, rfl⟩
  have f4 := lk_contains
  have f5 := type_contains
  have f6 := slot_mget.lookup
  have f7 := no_mset
  have f8 := no_mdel
  have hT5 : s.TypeIs (.builtin "set.__contains__") "method_descriptor" := type_contains
  repeat (any_goals (first | assumption | wp_step))
  refine codeAny_call_builtin slot_mget.plain entry_mget (slot_mget.check _ _ _ _ _ _ _ _ hT5 (args_mget _ _ _) (run_mget hT ?_))
  exact wpAny_pure h
theorem ga_call {tk : Tok} {es : Array (Int × Value)} {ep : Nat} {tb : SetTable} {R : Result → Shared → Prop} (ho : s.heap.get? S = some ⟨.type "set", none, .set es ep tb, #[]⟩) (h : R (.ok (.ret (.ref s.heap.objs.size))) { s with heap := s.heap.push (boundO S) }) :
    codeAny (model prog w) A (.call (.builtin "set.__getattribute__") ⟨[.ref S, .str "__contains__" tk], []⟩) R s :=
  codeAny_call_builtin F.slot_set_getattribute.plain entry_set_ga (F.slot_set_getattribute.check _ _ _ _ _ _ _ _ (show s.TypeIs (.ref S) "set" from ⟨_, ho, rfl⟩) (F.args_set_getattribute_2 _ _) (ga_contains ho h))
theorem attr_contains {Q : Value → Shared → Prop} {es : Array (Int × Value)} {ep : Nat} {tb : SetTable} (ho : s.heap.get? S = some ⟨.type "set", none, .set es ep tb, #[]⟩) (h : Q (.ref s.heap.objs.size) { s with heap := s.heap.push (boundO S), toks := s.toks + 1 }) :
    wpAny (model prog w) A (getAttr (.ref S) "__contains__" true) Q E s := by
  have f2 := F.slot_set_getattribute.lookup
  have f3 := F.slot_set_getattribute.bind (.ref S)
  have hT : s.TypeIs (.ref S) "set" := ⟨_, ho, rfl⟩
  unfold getAttr
  repeat (any_goals (first | assumption | wp_step))
  refine ga_call ho ?_
  repeat (any_goals (first | assumption | wp_step))
theorem sig_contains : Manifest.signature? "set.__contains__" = some ⟨.oneArg, "set.__contains__", "__contains__", .self, [⟨"object", .posOnly, true⟩]⟩ := by
  rw [signature?_of (id := "set.__contains__") (n := ['_', '_', 's', 'n', 'i', 'a', 't', 'n', 'o', 'c', '_', '_']) (o := ['t', 'e', 's']) (by kernel_rfl) F.owner_set]; kernel_rfl
theorem kind_contains : builtinKind "set.__contains__" = some .method := by kernel_rfl
theorem sub_set_module : isSubtype (.type "set") (.type "module") = pure false := by rw [isSubtype_type]; kernel_rfl
theorem vam_contains : Manifest.varargsMethods.contains "set.__contains__" = false := by decide +kernel
theorem args_contains (a b : Value) : Bind.checkArgs "set.__contains__" ⟨.oneArg, s!"{Bind.lastOf "set"}.{Bind.lastOf "set.__contains__"}", "__contains__", .self, [⟨"object", .posOnly, true⟩]⟩ ⟨[a, b], []⟩ = pure () := by kernel_rfl
theorem check_contains {es : Array (Int × Value)} {ep : Nat} {tb : SetTable} {v : Value} {Q : Unit → Shared → Prop} (ho : s.heap.get? S = some ⟨.type "set", none, .set es ep tb, #[]⟩) (h : Q () s) : wpAny (model prog w) A (checkBoundCall "set.__contains__" ⟨[.ref S, v], []⟩) Q E s := by
  have hT : s.TypeIs (.ref S) "set" := ⟨_, ho, rfl⟩
  have hk : (Manifest.AttrKind.method != Manifest.AttrKind.method && Manifest.AttrKind.method != Manifest.AttrKind.classMethod) = false := by decide
  simp only [checkBoundCall, sig_contains, kind_contains, hk, vam_contains, Bool.false_or]
  simp only [Bool.false_eq_true, if_false]
  refine wpAny_bind (wpAny_isInstance hT sub_set_module ?_)
  simp only [Bool.false_eq_true, if_false]
  repeat (any_goals (first | assumption | (refine wpAny_of_eq (a := ()) (args_contains _ _) ?_) | wp_step))
theorem quiet_contains {as : Args} : (Code.builtin "set.__contains__" as).quiet = true := Code.quiet_builtin _ (by decide +kernel)
/-- the bound method of the set, called -/
theorem call_contains {a : Addr} {x : Str} {t : Tok} {f : Str → Bool} {n : Nat} {Q : Value → Shared → Prop} (ho : s.heap.get? a = some (boundO S)) (hS : s.heap.SetOf (strKind prog w) S f n)
    (h : Q (.bool (f x)) { s with toks := s.toks + 1 }) : wpAny (model prog w) A (call (.ref a) [.str x t]) Q E s := by
  obtain ⟨es, ep, tb, hSo⟩ : ∃ es ep tb, s.heap.get? S = some ⟨.type "set", none, .set es ep tb, #[]⟩ := by
    obtain ⟨⟨oc, od, oda, os⟩, es, ep, tb, ho, ⟨h1, h2, h3⟩, h4, _⟩ := hS
    dsimp only at h1 h2 h3 h4
    subst h1 h2 h3 h4
    exact ⟨es, ep, tb, ho⟩
  refine wpAny_call (codeAny_of_tree ?_)
  show wpAny _ A.in1 (callAny (.ref a) ⟨[.str x t], []⟩) _ _ s
  simp only [callAny]
  refine wpAny_bind (wpAny_load ho ?_)
  simp only [boundO, show (Value.type "builtin_function_or_method" == Value.type "method" || Value.type "builtin_function_or_method" == Value.type "builtin_function_or_method" || Value.type "builtin_function_or_method" == Value.type "method-wrapper") = true by decide, if_true]
  refine KFB.if_so (by decide) ?_
  refine wpAny_bind (check_contains hSo ?_)
  refine wpAny_bind (wpAny_pure (wpAny_pure ?_))
  refine ⟨quiet_contains, codeAny_builtin entry_set_contains ?_⟩
  unfold Builtin.«frozenset.__contains__» Builtin.Frozenset.oneOther
  simp only [List.isEmpty_nil, bind_assoc]
  unfold Builtin.Frozenset.addrOf Builtin.Frozenset.withSetAsKey setContains
  refine wpAny_bind (wpAny_pure ?_)
  try dsimp only
  refine wpAny_bind (wpAny_pure ?_)
  try dsimp only
  refine wpAny_bind (wpAny_tryCatch ?_)
  refine wpAny_holding ?_
  refine wpAny_bind ((strKind prog w).pyHash (strKind_is _ _ _ _) ?_)
  refine wpAny_bind (wpAny_setFind_of (s := { s with toks := s.toks + 1 }) (strKind_is _ _ _ _) rfl hS fun r hr => ?_)
  refine wpAny_pure ?_
  show wpAny _ _ (ret (Value.bool r.isSome)) _ _ _
  rw [hr]
  exact wpAny_pure h
end
end Mine
end
section
theorem Mine.begins_S1 : True := by
  w_top off
  trivial
open PySem PySem.W PyProof.Rows PySem.SeqAt PySem.Calls
set_option maxRecDepth 100000
set_option maxHeartbeats 4000000
namespace Mine
section
variable {prog : Program} {w : World} {A : Around} {E : Value → Shared → Prop} {s : Shared} {h₀ : Heap} {L : Addr} {m : Str → Option Value} {news : List (Addr × Obj)} {S : Addr}
theorem up_news {h h' : Heap} {D : Addr} {o : Obj} (F : Fr h₀ L h m) (N : News h₀ L h news) (up : Ext h h') (hD : h.get? D = none) (ho : h'.get? D = some o) : Fr h₀ L h' m ∧ News h₀ L h' ((D, o) :: news) ∧ AllNe D news := by
  have e := news_ext F N hD ho fun b o _ e => up b o e
  exact ⟨F.keeps up, e.1, allNe_of e.2.1⟩
theorem none_size (h : Heap) : h.get? h.objs.size = none := by
  cases e : h.get? h.objs.size with
  | none => rfl
  | some o => exact absurd (Heap.lt_size e) (Nat.lt_irrefl _)
theorem set_strsN {l : Addr} {vs : List Value} {xs : List Str} {Q : Value → Shared → Prop} (F : Fr h₀ L s.heap m) (N : News h₀ L s.heap news) (hh : A.handled = none) (hl : s.heap.IsList l vs.toArray) (hx : StrsV vs xs) (hb : xs.length ≤ 1000)
    (h : ∀ S so n h' tk, Fr h₀ L h' m → News h₀ L h' ((S, so) :: news) → AllNe S news → so.SetObjOf (strKind prog w) (hasUpto xs xs.length) n → n ≤ xs.length → Ext s.heap h' → Q (.ref S) { s with heap := h', toks := tk }) :
    wpAny (model prog w) A (call (.type "set") [.ref l]) Q E s := by
  refine set_strs hh hl (fun i v hv => strsV_at hx hv) (strsV_len hx) (by unfold scanBound; omega) fun h' tk n hn hS up => ?_
  obtain ⟨so, ho, hso⟩ := hS.objOf
  have e := up_news F N up (none_size s.heap) ho
  exact h _ so n h' tk e.1 e.2.1 e.2.2 hso hn up
theorem setObj_shape {so : Obj} {f : Str → Bool} {n : Nat} (h : so.SetObjOf (strKind prog w) f n) : ∃ es ep tb, so = ⟨.type "set", none, .set es ep tb, #[]⟩ := by
  obtain ⟨oc, od, oda, os⟩ := so
  obtain ⟨⟨h1, h2, h3⟩, es, ep, tb, h4, _⟩ := h
  dsimp only at h1 h2 h3 h4
  subst h1 h2 h3 h4
  exact ⟨es, ep, tb, rfl⟩
theorem attr_containsN {so : Obj} {f : Str → Bool} {n : Nat} {Q : Value → Shared → Prop} (F : Fr h₀ L s.heap m) (N : News h₀ L s.heap news) (hm : (S, so) ∈ news) (hS : so.SetObjOf (strKind prog w) f n)
    (h : ∀ B h' tk, Fr h₀ L h' m → News h₀ L h' ((B, boundO S) :: news) → AllNe B news → Ext s.heap h' → Q (.ref B) { s with heap := h', toks := tk }) :
    wpAny (model prog w) A (getAttr (.ref S) "__contains__" true) Q E s := by
  obtain ⟨es, ep, tb, rfl⟩ := setObj_shape hS
  have up : Ext s.heap (s.heap.push (boundO S)) := fun b o e => Heap.get?_push_of_some _ e
  have e := up_news F N up (none_size s.heap) (Heap.get?_push_size _ rfl)
  exact attr_contains (N _ hm).1 (h _ _ _ e.1 e.2.1 e.2.2 up)
end
section
variable {prog : Program} {w : World} {A : Around} {E : Value → Shared → Prop} {s : Shared}
theorem isGen_keep {h h' : Heap} {D : Addr} {gi : Nat} (hg : h.IsGen D gi) (k : Ext h h') : h'.IsGen D gi := let ⟨o, nm, qn, ho, r⟩ := hg; ⟨o, nm, qn, k D o ho, r⟩
theorem iter_gen {D : Addr} {gi : Nat} {Q : Value → Shared → Prop} (hg : s.heap.IsGen D gi) (h : Q (.ref D) s) : wpAny (model prog w) A (call (.builtin "iter") [.ref D]) Q E s := by
  refine call_function_entry (by decide +kernel) (by decide +kernel) kdk_entry_iter (kdk_args_iter _) ?_
  unfold Builtin.«iter»
  refine wpAny_bind (m := someArgs "iter" 1 2 _) (wpAny_of_eq (a := [Value.ref D]) (by first | rfl | kernel_rfl!) ?_)
  show wpAny _ _ (pyIter (.ref D) >>= _) _ _ _
  exact wpAny_bind (wpAny_pyIter_gen hg (wpAny_pure ⟨_, rfl, h⟩))
end
local macro_rules | `(tactic| cell_enter) => `(tactic| (refine' pure_def ?k3 ?k5 ?k6 ?k7 ?k8 ?k9 ?kB ?_ ?c2 ?c3 ?c4 ?c5; (case k3 => k_asm); (case k5 => k_asm); (case k6 => k_is); (case k7 => k_is); (case k8 => ktr_room); (case k9 => exact BindsTo.of_eq rfl); (case c5 => decide); (case kB => exact locs rfl); (case c2 => exact rfl); (case c3 => exact rfl); (case c4 => exact rfl); k_whole; intro L' h' F' N'; (try dsimp only); (try k_fold)))
/-- the thing that filterfalse makes -/
noncomputable abbrev ffO (dx Bd D : Addr) : Obj := { cls := .ref 82, dict := some dx, slots := #[some (.ref Bd), some (.ref D)] }
/-- it, its bound method and its set stand -/
noncomputable def FFat (prog : Program) (w : World) (h : Heap) (x D : Addr) (xs : List Str) : Prop := ∃ dx Bd S so n, h.get? x = some (ffO dx Bd D) ∧ h.get? dx = some (dictOf [] 0) ∧ h.get? Bd = some (boundO S) ∧ h.get? S = some so ∧ so.SetObjOf (strKind prog w) (hasUpto xs xs.length) n ∧ n ≤ xs.length
theorem c_diff {w : World} {D l : Addr} {gi : Nat} {vs : List Value} {xs : List Str} {A : Around} {envs : List Env} {base : Heap} {s : Shared} {Q E : Value → Shared → Prop} {loose : List Str} {mean : ExcName → Option Value} {mg mb : Str → Option Value}
    (hh : A.handled = none) (B : Below { A with frames := some envs } base envs s.heap) (hA : A.frames = some envs) (X : (hd.heap_39 w.params).In s.heap) (S1 : Extra w s.heap) (T : Top qv loose mean mg mb s.heap)
    (hdp : A.depth + 10 < recursionLimit) (hun : A.units + 60 < cLine)
    (hg : s.heap.IsGen D gi) (hl : s.heap.IsList l vs.toArray) (hv : StrsV vs xs) (hxl : xs.length ≤ 1000)
    (hret : ∀ x h' tk', Ext s.heap h' → (∀ L, s.heap.get? L ≠ none → FFat pg w (hideAll h' [L]) x D xs) → s.heap.get? x = none → Q (.ref x) { s with heap := h', toks := tk' }) :
    wpAny (model pg w) A (call (.ref 93) [.ref D, .ref l]) Q E s := by
  unfold pg
  revert X
  k_fill
  intro X
  obtain ⟨ha, dp, fr, gd, un⟩ := A
  obtain rfl : ha = none := hh
  obtain rfl : fr = some envs := hA
  dsimp only at hdp hun B
  k_dflt cell_enter
  k_steps
  rename Fr _ _ _ _ => kF
  rename News _ _ _ _ => kN
  refine set_strsN kF kN rfl (kF.lst hl) hv hxl fun S so n h9 tk9 F9 N9 n9 hso hn up9 => ?_
  k_steps
  refine attr_containsN F9 N9 (.head _) hso fun Bd h8 tk8 F8 N8 n8 up8 => ?_
  k_steps
  refine call_cls (K := hd.heap_39 w.params) (fI := 64) F8 X N8 ?m ?i ?f ?_
  case m => k_is
  case i => k_is
  case f => k_is
  intro x dx h7 F7 N7 l7 l6
  (try k_lt l7)
  (try k_lt2 l6)
  simp only [AllNe, and_true] at n8 n9
  (refine' code_def ?k1 ?k2 ?k3 ?k4 ?k5 ?kA ?kF ?kK ?k6 ?k7 ?k8 ?k9 ?kB ?_ ?c2 ?c3 ?c4 ?c5; (case kA => exact rfl); (case kF => exact rfl); (case kK => exact rfl); (case k1 => k_asm); (case k2 => k_asm); (case k3 => k_asm); (case k4 => k_asm); (case k5 => k_asm); (case k6 => k_is); (case k7 => k_is); (case k8 => ktr_room); (case k9 => exact BindsTo.of_eq rfl); (case c5 => decide); (case kB => exact locs rfl); (case c2 => exact rfl); (case c3 => exact rfl); (case c4 => exact rfl))
  k_whole; intro g' L' h' FG' F' N' B' X' T'; (try dsimp only); (try k_lift B'); (try k_fold)
  k_steps
  refine iter_gen (isGen_keep (isGen_keep hg FG'.keep) F'.keep) ?_
  k_steps
  k_steps
  rename News s.heap _ _ _ => kN
  refine ⟨_, _, by k_asm, fun k => hret _ _ _ k (fun L hL => ?_) (kN _ (.head _)).2.2⟩
  have hi : ∀ p ∈ _, _ := fun (p : Addr × Obj) hp => hideAll_get [L] (kN p hp).1 (fun h => hL (by rw [← List.mem_singleton.mp h]; exact (kN p hp).2.2))
  exact ⟨dx, Bd, S, so, n, hi _ (.head _), hi _ (.tail _ (.head _)), hi _ (.tail _ (.tail _ (.head _))), hi _ (.tail _ (.tail _ (.tail _ (.head _)))), hso, hn⟩
end Mine
end
section
open PySem PySem.W PyProof.Rows PySem.SeqAt PySem.Calls
set_option maxRecDepth 100000
set_option maxHeartbeats 4000000
namespace Mine
section
variable {prog : Program} {w : World} {A : Around} {E : Value → Shared → Prop} {s : Shared}
/-- next(a generator) -/
theorem next_genR {a : Addr} {g : Nat} {gs : GenState} {Φ : End → Shared → Prop} {Q : Value → Shared → Prop} (hh : A.handled = none)
    (hl : s.heap.NoLimit) (hroom : A.depth < recursionLimit)
    (hg : s.heap.IsGen a g) (hgs : s.gens[g]? = some gs)
    (hgo : GenRun (model prog w) A.in1.in1 Φ (s.setGen g .running) gs)
    (hq : ∀ e s₁, Φ e s₁ → e.quiet = true)
    (hR : ∀ e s₁, Φ e s₁ → (∃ v, e.result = .yielded v ∧ Q v (s₁.setGen g e.genState)) ∨
      (e = .ret (.ok (.ret .none)) ∧ ∀ h' ea, Heap.MadeExcOf s₁.heap h' ea (.type "StopIteration") [] → E (.ref ea) { s₁.setGen g .finished with heap := h' })) :
    wpAny (model prog w) A (call (.builtin "next") [.ref a]) Q E s := by
  refine call_function_entry (by decide +kernel) (by decide +kernel) kdk_entry_next (kdk_args_next _) ?_
  unfold Builtin.«next»
  refine wpAny_bind (m := someArgs "next" 1 2 _) (wpAny_of_eq (a := [Value.ref a]) (by first | rfl | kernel_rfl!) ?_)
  dsimp only
  refine wpAny_bind (wpAny_specialOf (name := Str.ofString "__next__") hg.typeIs slot_gen_next.lookup ?_)
  refine wpAny_ite_split (fun hab => absurd hab (by decide)) (fun _ => ?_)
  refine wpAny_bind (wpAny_callSpecial?_slot (name := Str.ofString "__next__") hg.typeIs slot_gen_next
    (wpAny_call_entry slot_gen_next hg.typeIs entry_gen_next ?_ (args_gen_next _)))
  show wpAny _ _ (Builtin.Generator.genWake (.ref a) (.send .none)) _ _ s
  unfold Builtin.Generator.genWake
  refine wpAny_bind (wpAny_holding (wpAny_genNumber hg (wpAny_bind (wpAny_genState hgs ?_))))
  cases gs with
  | running => exact hgo.elim
  | finished => exact hgo.elim
  | _ =>
    refine wpAny_bind (wpAny_roomToWake hl hroom ?_)
    show wpAny _ _ (.resume g (.send .none) [] _) _ _ s
    refine wp_wake hgs (by first | exact ⟨rfl, hgo⟩ | exact hgo) hq (fun e s₁ he => ?_)
    rcases hR e s₁ he with ⟨v, hv, hQ⟩ | ⟨rfl, hQ⟩
    · rw [hv]
      exact wpAny_pure ⟨v, rfl, wpAny_pure ⟨_, rfl, hQ⟩⟩
    · show wpAny _ _ (newExc (.type "StopIteration") [] >>= _) _ _ _
      refine wpAny_bind ?_
      simp only [newExc, newTuple]
      refine wpAny_bind (wpAny_newObj_type ?_ (by size_fits))
      refine wpAny_bind (m := firstArgMember _ _) (wpAny_of_eq (a := Value.none) (by first | rfl | (simp only [firstArgMember]; rfl)) ?_)
      refine wpAny_newObj_type ?_ (by size_fits)
      simp only [raiseNew]
      refine wpAny_bind (wpAny_bind (wpAny_handled ?_))
      rw [show A.in1.in1.handled = none from hh]
      refine wpAny_throw ?_
      refine hQ _ _ ⟨fun b o hb => Heap.get?_push_of_some _ (Heap.get?_push_of_some _ hb), ?_, s₁.heap.objs.size, ?_, none_size _, ?_⟩
      · show s₁.heap.get? (s₁.heap.push _).objs.size = none
        rw [Heap.size_push]
        cases e : s₁.heap.get? (s₁.heap.objs.size + 1) with
        | none => rfl
        | some o => exact absurd (Nat.lt_of_succ_lt (Heap.lt_size e)) (Nat.lt_irrefl _)
      · exact Heap.get?_push_size _ rfl
      · exact Heap.get?_push_of_some _ (Heap.get?_push_size _ rfl)
end
end Mine
end
section
open PySem PySem.W PyProof.Rows PySem.SeqAt PySem.Calls
set_option maxRecDepth 100000
set_option maxHeartbeats 4000000
namespace Mine
section
variable {w : World} {A : Around} {outer : List Env} {base g : Heap} {P : Str} {D L : Addr} {gi n i : Nat} {s : Shared} {Q : Value → Shared → Prop} {E : Value → Shared → Prop} {loose : List Str} {mean : ExcName → Option Value} {mg mb : Str → Option Value}
/-- next(the generator) by the built-in: its i-th thing, or StopIteration -/
theorem anc_nextR (hY : Yields P n) (hi : i ≤ n) (hP : P.length ≤ 4096) (hDL : D ≠ L)
    (hh : A.handled = none) (hf : A.frames = some outer) (B : Below A base outer s.heap) (hL : base.get? L = none) (hn : ∀ env ∈ outer, env.frame ≠ some L)
    (X : (hd.heap_39 w.params).In g) (S1 : Extra w g) (T : Top qv loose mean mg mb g)
    (hd : A.depth + 6 < recursionLimit) (hu : A.units + 42 < cLine) (St : AncSt w g P D L gi n i s)
    (item : i < n → ∀ t h' tk' gs', AncSt w g P D L gi n (i + 1) { s.setGen gi gs' with heap := h', toks := tk' } → GenOnlyQ gi s.gens (s.setGen gi gs').gens → (∀ b o, b ≠ L → s.heap.get? b = some o → h'.get? b = some o) →
      Q (.str (pathAt P i) t) { s.setGen gi gs' with heap := h', toks := tk' })
    (done : i = n → ∀ h₁ h' tk' ea, GenOnlyQ gi s.gens (s.setGen gi .finished).gens → (∀ b o, b ≠ L → s.heap.get? b = some o → h₁.get? b = some o) → Heap.MadeExcOf h₁ h' ea (.type "StopIteration") [] → E (.ref ea) { s.setGen gi .finished with heap := h', toks := tk' }) :
    wpAny (model pg w) A (call (.builtin "next") [.ref D]) Q E s := by
  obtain ⟨hg, ⟨m, t, Fg, hm⟩, gs, hgs, hst⟩ := St
  have hPb := Nat.le_trans (pathBef_len P i) hP
  have key : GenRun (model pg w) A.in1.in1 (GTail w L (GGoes w L (n - i)) (pathAt P i) g (allNews g L s.heap) (s.setGen gi .running)) (s.setGen gi .running) gs := by
    cases i with
    | zero =>
      cases gs with
      | fresh c => exact ggo_run (s := s.setGen gi .running) (gst_zero.mp hst) (A := A.in1.in1) hh hf ⟨hf, B.stays, B.frames⟩ hL hn Fg X S1 T hm hPb hd (by show A.units + 1 + 1 + 40 < cLine; omega)
      | _ => exact hst.elim
    | succ i =>
      cases gs with
      | suspended k l c p fs cl => exact ggo_run (s := s.setGen gi .running) (gst_succ.mp hst) (A := A.in1.in1) hh hf ⟨hf, B.stays, B.frames⟩ hL hn Fg X S1 T hm hPb hd (by show A.units + 1 + 1 + 40 < cLine; omega)
      | _ => exact hst.elim
  refine next_genR (Φ := GTail w L (GGoes w L (n - i)) (pathAt P i) g (allNews g L s.heap) (s.setGen gi .running)) hh (T.keeps Fg.keep).nolimit (by omega) hg hgs key ?_ ?_
  · rintro e s₁ ⟨h', tk', t', m', rfl, hm', F', N', hif⟩
    split at hif
    · exact hif.1
    · subst hif; rfl
  · rintro e s₁ ⟨h', tk', t', m', rfl, hm', F', N', hif⟩
    have k := allNews_keep Fg.keep F'.keep fun p hp => (N' p hp).1
    split at hif
    · rename_i ht
      obtain ⟨hq, ⟨tv, hv⟩, hnx⟩ := hif
      have hlt : i < n := by
        rcases Nat.lt_or_ge i n with h | h
        · exact h
        · obtain rfl : i = n := Nat.le_antisymm hi h
          exact absurd ht hY.2
      refine .inl ⟨_, hv, ?_⟩
      refine (setGen_twice s gi .running e.genState h' tk').symm ▸ ?_
      refine item hlt tv h' tk' e.genState ⟨?_, ⟨m', t', F', hm'⟩, ⟨e.genState, setGen_self hgs, ?_⟩⟩ ?_ k
      · let ⟨o, nm, qn, ho, r⟩ := hg; exact ⟨o, nm, qn, k D o hDL ho, r⟩
      · have hs : n - i = n - (i + 1) + 1 := by omega
        rw [hs] at hnx
        exact hnx
      · exact GenOnlyQ.of (GenOnly.setGen s gi _) (setGen_self hgs) (End.bare_of_quiet hq)
    · rename_i ht
      subst hif
      have hin : i = n := by
        rcases Nat.lt_or_ge i n with h | h
        · exact absurd (hY.1 i h) ht
        · exact Nat.le_antisymm hi h
      refine .inr ⟨rfl, fun h'' ea hx => ?_⟩
      refine (setGen_twice s gi .running .finished h' tk').symm ▸ ?_
      exact done hin h' h'' tk' ea (GenOnlyQ.of (GenOnly.setGen s gi _) (setGen_self hgs) rfl) k hx
end
section
variable {prog : Program} {w : World} {A : Around} {E : Value → Shared → Prop} {s : Shared} {K : Frag} {p : Program} {loose : List Str} {mean : ExcName → Option Value} {mg mb : Str → Option Value} {Q : Value → Shared → Prop}
/-- a def entered, its end left open -/
theorem pure_defG {name qual : Str} {params : Arguments} {body : List Stmt} {scope : Scope} {dV kV doc pm cdv ct oc : Value} {an od : Option Addr} {osl : Array (Option Value)} {f : Addr} {pos : List Value} {binds : List (Str × Value)}
    (X : K.In s.heap) (T : Top p loose mean mg mb s.heap)
    (ho : K.lookup f = some ⟨oc, od, .func (fnOf name qual params body scope dV kV doc pm an cdv ct), osl⟩) (hcd : codeIn K cdv qual = true) (hroom : A.depth < recursionLimit)
    (hbind : BindsTo s (fnOf name qual params body scope dV kV doc pm an cdv ct) ⟨pos, []⟩ binds) (hloc : ∀ y ∈ binds, scope.names.lookup y.1 = some .local)
    (h : ∀ L' h₁, Fr s.heap L' h₁ (fun y => binds.reverse.lookup y) → News s.heap L' h₁ [] →
      wpAny (model prog w) (A.deeper (envOf qual scope L' f cdv)) (execs body (envOf qual scope L' f cdv))
        (fun fl s' => Q (match fl with | .ret v => v | _ => .none) s')
        (fun e s' => wpAny (model prog w) (A.deeper (envOf qual scope L' f cdv)) (leaving (envOf qual scope L' f cdv) e) (fun _ s'' => E e s'') (fun e' s'' => E e' s'') s')
        { s with heap := h₁, toks := s.toks + binds.length })
    (hco : scope.isCoroutine = false) (hgen : scope.isGenerator = false) (hk : scope.kind = .function)
    (hcell : ∀ x ∈ scope.names, x.2 ≠ .cell) : wpAny (model prog w) A (call (.ref f) pos) Q E s := by
  refine wpAny_call ?_
  refine codeAny_call_def (fd := fnOf name qual params body scope dV kV doc pm an cdv ct) (body := body) (binds := binds) hroom (X _ _ ho) rfl T.nolimit (codeRec_of X hcd) rfl hbind hcell hloc (fun h₁ hns hk₁ => ?_) hco hgen hk
  exact h s.heap.objs.size h₁ ⟨hns, hk₁, Nat.le_refl _⟩ News.nil
/-- a fresh exception leaves a frame -/
theorem leave_any {M : Model} {A : Around} {E : Value → Shared → Prop} {s : Shared} {env : Env} {outer : List Env} {b0 h : Heap} {L e : Addr} {T : String} {vs : List Value} {Q : Unit → Shared → Prop}
    (hfr : A.frames = some (env :: outer)) (hf : env.frame = some L) (hl : h.FunFrames b0 (env :: outer)) (hx : Heap.MadeExcOf h s.heap e (.type T) vs)
    (hQ : ∀ h', (∃ o, h'.get? e = some o ∧ o.cls = .type T) → (∀ b o, (∀ en ∈ env :: outer, en.frame ≠ some b) → h.get? b = some o → h'.get? b = some o) → h.UpToSlots h' → Q () { s with heap := h' }) :
    wpAny M A (leaving env (.ref e)) Q E s := by
  have hin : ∀ en ∈ env :: outer, ∀ b, en.frame = some b → b ∈ (env :: outer).filterMap (·.frame) := fun en he b hb => List.mem_filterMap.mpr ⟨en, he, hb⟩
  refine wpAny_leaves_madeW (base := hideAll h ((env :: outer).filterMap (·.frame))) hfr hf (fun b o q => of_hideAll _ q) (funFrames_hide hl hin) hx fun h' t x1 x2 x3 x4 => hQ h' x1.there (fun b o hb ho => x1.1 b o (hideAll_get _ ho fun hm => ?_)) ((Heap.UpToSlots.of_keeps hx.keeps).trans x4)
  obtain ⟨en, he, hf⟩ := List.mem_filterMap.mp hm
  exact hb en he hf
theorem callWith_boundO {M : Model} {pos : Pos} {u S : Addr} {first : List Value} {env : Env} {e : PySem.Expr} {rest : List PySem.Expr} {Q : Value → Shared → Prop}
    (h : wpAny M A (spliced (backTo pos (starEach (e :: rest) env))) (fun vs s₁ => s₁.heap.get? u = some (boundO S) ∧ wpAny M A (call (.ref u) (first ++ vs)) Q E s₁) E s)
    (he : starEach (e :: rest) env = (false, eval e env) :: starEach rest env := by rfl) (hplain : (backTo pos (starEach rest env)).any (·.1) = false := by rfl) :
    wpAny M A (callWith pos (.ref u) first (backTo pos (starEach (e :: rest) env)) []) Q E s := by
  rw [he] at h ⊢
  have hp : (backTo pos ((false, eval e env) :: starEach rest env)).any (·.1) = false := by show (false || (backTo pos (starEach rest env)).any (·.1)) = false; rw [hplain]; rfl
  unfold callWith
  refine wpAny_bind (wpAny_holding (wpAny_mono (evalArgs_plain (Q := fun x s₁ => s₁.heap.get? u = some (boundO S) ∧ wpAny M A (call (.ref u) (first ++ x.pos) x.kw) Q E s₁) h) (fun x s₁ h₁ => wpAny_bind (wpAny_standAt ?_)) fun _ _ x => x))
  obtain ⟨ho, hcall⟩ := h₁
  simp only [hp, List.any_nil, Bool.or_false]
  refine wpAny_bind (m := keeperOf (.ref u)) ?_
  unfold keeperOf
  refine wpAny_bind (wpAny_load ho ?_)
  simp only [show (Value.type "builtin_function_or_method" != Value.type "method") = true by decide, show (Value.type "builtin_function_or_method" == Value.type "builtin_function_or_method" || Value.type "builtin_function_or_method" == Value.type "method-wrapper") = true by decide, if_true]
  refine wpAny_pure ?_
  exact wpAny_bind (wpAny_mono hcall (fun r s₂ hr => wpAny_bind (wpAny_holding (wpAny_point (wpAny_pure hr)))) fun _ _ x => x)
end
theorem instKeep {h h' : Heap} {x C : Addr} {ox : Obj} {od : Option Obj} (I : InstAt h x ox C od) (k : Ext h h') : InstAt h' x ox C od := by
  obtain ⟨a, b, c, d⟩ := I
  refine ⟨k _ _ a, b, c, ?_⟩
  split at d
  · exact k _ _ d
  · trivial
  · exact d.elim
end Mine
end
section
theorem Mine.begins_S5 : True := by
  w_top off
  trivial
local macro_rules | `(tactic| walk_at "none") => `(tactic| fail)
open PySem PySem.W PyProof.Rows PySem.SeqAt PySem.Calls
set_option maxRecDepth 100000
set_option maxHeartbeats 4000000
namespace Mine
/-- what stands while the made filterfalse is walked -/
structure NxC (w : World) (A : Around) (g : Heap) (P : Str) (D L : Addr) (n : Nat) (xs : List Str) (envs : List Env) (base : Heap) : Prop where
  yields : Yields P n
  len : P.length ≤ 4096
  ne : D ≠ L
  hh : A.handled = none
  hf : A.frames = some envs
  hL : base.get? L = none
  hn : ∀ env ∈ envs, env.frame ≠ some L
  X : (hd.heap_39 w.params).In g
  S1 : Extra w g
  T : ∃ loose mean mg mb, Top qv loose mean mg mb g
  hd : A.depth + 10 < recursionLimit
  hu : A.units + 60 < cLine
  hxl : xs.length ≤ 1000
/-- it stands before the generator's j-th thing -/
structure FSt (w : World) (g : Heap) (P : Str) (D L : Addr) (gi n : Nat) (x : Addr) (xs : List Str) (envs : List Env) (base : Heap) (j : Nat) (s : Shared) : Prop where
  le : j ≤ n
  anc : AncSt w g P D L gi n j s
  ff : FFat pg w (hideAll s.heap [L]) x D xs
  stays : base.StaysIn s.heap
  frames : s.heap.FunFrames base envs
noncomputable def KeepL (L : Addr) (gi : Nat) (s s' : Shared) : Prop := (∀ b o, b ≠ L → s.heap.get? b = some o → s'.heap.get? b = some o) ∧ GenOnlyQ gi s.gens s'.gens ∧ s'.drawn = s.drawn ∧ s'.os = s.os
noncomputable def StopL (L : Addr) (gi : Nat) (envs : List Env) (s s' : Shared) (ea : Addr) : Prop := s'.TypeIs (.ref ea) "StopIteration" ∧
  (∀ b o, b ≠ L → (∀ en ∈ envs, en.frame ≠ some b) → s.heap.get? b = some o → s'.heap.get? b = some o) ∧ (∃ h₁ : Heap, (∀ b o, b ≠ L → s.heap.get? b = some o → h₁.get? b = some o) ∧ h₁.UpToSlots s'.heap) ∧ GenOnlyQ gi s.gens s'.gens ∧ s'.drawn = s.drawn ∧ s'.os = s.os
theorem hide_up {h h' : Heap} {L : Addr} (k : ∀ b o, b ≠ L → h.get? b = some o → h'.get? b = some o) : Ext (hideAll h [L]) (hideAll h' [L]) := fun b o e => by
  by_cases hb : b = L
  · subst hb
    rw [hideAll_none _ (.head _)] at e; cases e
  · exact hideAll_get _ (k b o hb (of_hideAll _ e)) (by simpa using hb)
theorem FFat.keep {prog : Program} {w : World} {h h' : Heap} {x D : Addr} {xs : List Str} (f : FFat prog w h x D xs) (k : Ext h h') : FFat prog w h' x D xs := by
  obtain ⟨dx, Bd, S, so, n, h1, h2, h3, h4, h5⟩ := f
  exact ⟨dx, Bd, S, so, n, k _ _ h1, k _ _ h2, k _ _ h3, k _ _ h4, h5⟩
theorem FFat.inst {prog : Program} {w : World} {h : Heap} {x D : Addr} {xs : List Str} (f : FFat prog w h x D xs) : ∃ dx Bd, InstAt h x (ffO dx Bd D) 82 (some (dictOf [] 0)) := by
  obtain ⟨dx, Bd, S, so, n, h1, h2, _⟩ := f
  exact ⟨dx, Bd, h1, rfl, rfl, h2⟩
/-- the loop of __next__, before the generator's j-th thing -/
noncomputable def NextI (w : World) (g : Heap) (P : Str) (D L : Addr) (gi n : Nat) (x : Addr) (xs : List Str) (B₀ : Heap) (s : Shared) (L' Bd : Addr) (j0 k : Nat) (s₁ : Shared) : Prop :=
  ∃ j m oL, j0 ≤ j ∧ k = n - j ∧ j ≤ n ∧ (∀ i, j0 ≤ i → i < j → hasUpto xs xs.length (pathAt P i) = true) ∧ AncSt w g P D L gi n j s₁ ∧ Fr B₀ L' s₁.heap m ∧ News B₀ L' s₁.heap [(L, oL)] ∧
    m (Str.ofString "self") = some (.ref x) ∧ m (Str.ofString "func") = some (.ref Bd) ∧ GenOnlyQ gi s.gens s₁.gens ∧ s₁.drawn = s.drawn ∧ s₁.os = s.os
theorem AncSt.frame2 {w : World} {g : Heap} {P : Str} {D L : Addr} {gi n i : Nat} {s : Shared} (st : AncSt w g P D L gi n i s) {h' : Heap} {tk : Nat} (hD : ∀ o, s.heap.get? D = some o → h'.get? D = some o) (hL : ∀ o, s.heap.get? L = some o → h'.get? L = some o) (hg : Ext g h') :
    AncSt w g P D L gi n i { s with heap := h', toks := tk } := by
  obtain ⟨⟨o, nm, qn, ho, r⟩, ⟨m, t, F, hm⟩, hs⟩ := st
  exact ⟨⟨o, nm, qn, hD o ho, r⟩, ⟨m, t, ⟨F.ns.at' hL, hg, F.above⟩, hm⟩, hs⟩
section
variable {w : World} {A : Around} {envs : List Env} {base g : Heap} {P : Str} {D L x : Addr} {gi n j : Nat} {xs : List Str} {s : Shared} {Q : Value → Shared → Prop} {E : Value → Shared → Prop}
theorem c_next (C : NxC w A g P D L n xs envs base) (St : FSt w g P D L gi n x xs envs base j s)
    (item : ∀ j' t s', j ≤ j' → j' < n → (∀ i, j ≤ i → i < j' → hasUpto xs xs.length (pathAt P i) = true) → hasUpto xs xs.length (pathAt P j') = false → FSt w g P D L gi n x xs envs base (j' + 1) s' → KeepL L gi s s' → Q (.str (pathAt P j') t) s')
    (stop : (∀ i, j ≤ i → i < n → hasUpto xs xs.length (pathAt P i) = true) → ∀ s' ea, StopL L gi envs s s' ea → E (.ref ea) s') :
    wpAny (model pg w) A (call (.ref 78) [.ref x]) Q E s := by
  obtain ⟨hY, hP, hDL, hh, hf, hL, hn, X, S1, ⟨loose, mean, mg, mb, T⟩, hdp, hup, hxl⟩ := C
  obtain ⟨hj, anc, ff, stays, frames⟩ := St
  obtain ⟨ha, dp, fr, gd, un⟩ := A
  obtain rfl : ha = none := hh
  obtain rfl : fr = some envs := hf
  dsimp only at hdp hup
  obtain ⟨mL, tL, FL, hmL⟩ := anc.fr
  have gB : Ext g (hideAll s.heap [L]) := fun b o e => hideAll_get _ (FL.keep b o e) (by
    have : b ≠ L := fun h => absurd (Nat.lt_of_lt_of_le (Heap.lt_size e) FL.above) (by rw [h]; exact Nat.lt_irrefl _)
    simpa using this)
  have XB := X.keeps gB
  have TB := T.keeps gB
  have Xs := X.keeps FL.keep
  have Ts := T.keeps FL.keep
  generalize hB0 : hideAll s.heap [L] = B₀ at ff XB TB gB
  have hB0s : Ext B₀ s.heap := fun b o e => by rw [← hB0] at e; exact of_hideAll _ e
  have hsB0 : ∀ b o, b ≠ L → s.heap.get? b = some o → B₀.get? b = some o := fun b o hb e => by rw [← hB0]; exact hideAll_get _ e (by simpa using hb)
  have hB0L : B₀.get? L = none := by rw [← hB0]; exact hideAll_none _ (.head _)
  have hB0z : B₀.objs.size = s.heap.objs.size := by rw [← hB0]; exact hideAll_size _ _
  have ff0 := ff
  obtain ⟨oD, hoD⟩ : ∃ oD, B₀.get? D = some oD := by
    obtain ⟨o, _, _, ho, _⟩ := anc.gen
    exact ⟨o, hsB0 _ _ hDL ho⟩
  obtain ⟨dx, Bd, S, so, nn, fx, fdx, fB, fS, hso, hnn⟩ := ff
  have Ix : InstAt B₀ x (ffO dx Bd D) 82 (some (dictOf [] 0)) := ⟨fx, rfl, rfl, fdx⟩
  unfold pg
  revert X Xs XB
  k_fill
  intro X Xs XB
  k_dflt (refine' pure_defG ?k3 ?k5 ?k6 ?k7 ?k8 ?k9 ?kB ?_ ?c2 ?c3 ?c4 ?c5; (case k3 => exact Xs); (case k5 => exact Ts); (case k6 => k_is); (case k7 => k_is); (case k8 => ktr_room); (case k9 => exact BindsTo.of_eq rfl); (case c5 => decide); (case kB => exact locs rfl); (case c2 => exact rfl); (case c3 => exact rfl); (case c4 => exact rfl))
  k_whole
  intro L' h' F' N'
  (try dsimp only)
  (try k_fold)
  have F1 : Fr B₀ L' h' _ := ⟨F'.ns, fun b o e => F'.keep b o (hB0s b o e), by rw [hB0z]; exact F'.above⟩
  walk1
  walk1
  walk1
  walk1
  k_dflt (refine' get_slot (x := x) (C := 82) ?k1 ?k2 ?k3 ?k4 ?k5 ?k6 ?k7 ?k8 ?k9 ?k10 ?k11 ?_; (case k1 => exact F1); (case k2 => exact XB); (case k3 => exact instKeep Ix F1.keep); (case k4 => k_is); (case k5 => k_is); (case k6 => k_is); (case k7 => k_is); (case k8 => k_is); (case k9 => k_is); (case k10 => k_slotget); (case k11 => k_handed))
  k_whole
  have hLs : L < s.heap.objs.size := FL.ns.lt
  obtain ⟨oL, hoL⟩ : ∃ oL, s.heap.get? L = some oL := by
    obtain ⟨o, _, _, ho, _⟩ := FL.ns
    exact ⟨o, ho⟩
  have hLL : @Ne Nat L L' := Nat.ne_of_lt (Nat.lt_of_lt_of_le hLs F'.above)
  have N1 : News B₀ L' h' [(L, oL)] := fun p hp => by
    rw [List.mem_singleton.mp hp]
    exact ⟨F'.keep _ _ hoL, hLL, hB0L⟩
  have FK := F'.keep
  clear F' N'
  walk1
  walk1
  rename Fr B₀ L' _ _ => F2
  rename News B₀ L' _ [(L, oL)] => N2
  refine wpAny_While (codeAny_whileLoop (NextI w g P D L gi n x xs B₀ s L' Bd j) ?turn (n - j) ?start)
  case start =>
    refine ⟨j, _, oL, Nat.le_refl _, rfl, hj, fun i h1 h2 => absurd h2 (by omega), anc.frame ?_, F2, N2, by exact rfl, by exact rfl, .inl rfl, rfl, rfl⟩
    intro b hb o hbo
    by_cases hbL : b = L
    · subst hbL
      rw [hoL] at hbo
      cases hbo
      exact (N2 _ (.head _)).1
    · exact F2.keep b o (hsB0 b o hbL hbo)
  case turn =>
    rintro k s₁ ⟨i, m, oL, hji, rfl, hin, hall, anc1, F3, N3, hms, hmf, hG, hdr, hos⟩
    rw [put_same hms, put_same hmf] at F3
    clear F2 N2
    k_steps
    have hbL : base.get? L' = none := by
      cases e : base.get? L' with
      | none => rfl
      | some o => exact absurd (Nat.lt_of_lt_of_le (Heap.lt_size (stays _ _ e)) (hB0z ▸ F3.above)) (Nat.lt_irrefl _)
    have fr1 : s₁.heap.FunFrames base envs := frames_keep (fun b o hb e => F3.keep b o (hsB0 b o hb e)) hn frames
    k_dflt (refine' get_slot (x := x) (C := 82) ?k1 ?k2 ?k3 ?k4 ?k5 ?k6 ?k7 ?k8 ?k9 ?k10 ?k11 ?_; (case k1 => exact F3); (case k2 => exact XB); (case k3 => exact instKeep Ix F3.keep); (case k4 => k_is); (case k5 => k_is); (case k6 => k_is); (case k7 => k_is); (case k8 => k_is); (case k9 => k_is); (case k10 => k_slotget); (case k11 => k_handed))
    k_steps
    have anc2 := anc1.frame (h' := s₁.heap) (tk := s₁.toks + 1) fun b _ o e => e
    refine anc_nextR (base := base) (outer := _ :: envs) hY hin hP hDL rfl rfl ?B hL ?n X S1 T (by show dp + 1 + 6 < _; omega) (by ktr_units) anc2 ?item ?done
    case B => exact ⟨rfl, fun b o e => F3.keep b o (hsB0 b o (fun h => by rw [h, hL] at e; cases e) (stays b o e)), .cons (by show ScopeKind.function ≠ .module; decide) rfl F3.ns hbL fr1⟩
    case n =>
      intro env he
      rcases List.mem_cons.mp he with rfl | he
      · exact fun h => hLL (Option.some.inj h).symm
      · exact hn env he
    case item =>
      intro hlt t h4 tk4 gs4 anc4 hG4 hk4
      have F4 : Fr B₀ L' h4 _ := ⟨F3.ns.at' fun o e => hk4 _ o (fun h => hLL h.symm) e, fun b o e => hk4 b o (fun h => by rw [h, hB0L] at e; cases e) (F3.keep b o e), F3.above⟩
      obtain ⟨oL4, hoL4⟩ : ∃ oL4, h4.get? L = some oL4 := by
        obtain ⟨_, _, Fg4, _⟩ := anc4.fr
        obtain ⟨o, _, _, ho, _⟩ := Fg4.ns
        exact ⟨o, ho⟩
      have N4 : News B₀ L' h4 [(L, oL4)] := fun p hp => by
        rw [List.mem_singleton.mp hp]
        exact ⟨hoL4, hLL, hB0L⟩
      have F4k : Ext B₀ h4 := F4.keep
      clear F3 N3
      k_steps
      rename Fr B₀ L' _ _ => F5
      rename News B₀ L' _ _ => N5
      refine callWith_boundO (S := S) ?_
      k_steps
      refine call_contains (F5.keep _ _ fB) (hso.setOf (F5.keep _ _ fS) (by unfold scanBound; omega)) ?_
      have hall2 : hasUpto xs xs.length (pathAt P i) = true → ∀ i', j ≤ i' → i' < i + 1 → hasUpto xs xs.length (pathAt P i') = true := fun hb i' h1 h2 => by
        rcases Nat.lt_or_ge i' i with h | h
        · exact hall i' h1 h
        · obtain rfl : i' = i := by omega
          exact hb
      cases hb : hasUpto xs xs.length (pathAt P i)
      · k_steps
        rename Fr B₀ L' _ _ => F6
        rename News B₀ L' _ _ => N6
        have k6 : ∀ b o, b ≠ L → s.heap.get? b = some o → _ := fun b o hb e => F6.keep b o (hsB0 b o hb e)
        refine item i t _ hji hlt hall hb ⟨hlt, anc4.frame2 ?_ ?_ fun b o e => F6.keep b o (gB b o e), ff0.keep ?_, fun b o e => k6 b o (fun h => by rw [h, hL] at e; cases e) (stays b o e), frames_keep k6 hn frames⟩ ⟨k6, hG.trans hG4, hdr, hos⟩
        · intro o e
          rw [F4k _ _ hoD] at e
          cases e
          exact F6.keep _ _ hoD
        · intro o e
          rw [hoL4] at e
          cases e
          exact (N6 _ (.head _)).1
        · intro b o e
          exact hideAll_get _ (F6.keep b o e) (by
            have : b ≠ L := fun h => by rw [h, hB0L] at e; cases e
            simpa using this)
      · walk1
        walk1
        rename Fr B₀ L' _ _ => F6
        rename News B₀ L' _ _ => N6
        refine wpAny_execs_nil (wpAny_execs_nil (wpAny_execs_nil ?_))
        refine ⟨n - (i + 1), by omega, i + 1, _, oL4, by omega, rfl, hlt, hall2 hb, anc4.frame2 ?_ ?_ fun b o e => F6.keep b o (gB b o e), F6, N6, by exact rfl, by exact rfl, hG.trans hG4, hdr, hos⟩
        · intro o e
          rw [F4k _ _ hoD] at e
          cases e
          exact F6.keep _ _ hoD
        · intro o e
          rw [hoL4] at e
          cases e
          exact (N6 _ (.head _)).1
    case done =>
      intro hin h5 h6 tk5 ea hG5 hk5 hx5
      subst hin
      have k5 : ∀ b o, b ≠ L → s.heap.get? b = some o → h5.get? b = some o := fun b o hb e => hk5 b o hb (F3.keep b o (hsB0 b o hb e))
      refine PassesOwn.leaving (Q₁ := fun e s'' => E e s'') (E₁ := fun e' s'' => E e' s'') _ _ (leave_any (outer := envs) (b0 := base) rfl rfl (frames_keep hk5 ?_ (.cons (by show ScopeKind.function ≠ .module; decide) rfl F3.ns hbL fr1)) hx5 fun h7 ho7 k7 sm7 => stop (fun i' h1 h2 => hall i' h1 h2) _ _ ⟨ho7, fun b o hb hne e => k7 b o (fun en he => ?_) (k5 b o hb e), ⟨h5, k5, sm7⟩, hG.trans hG5, hdr, hos⟩)
      · intro env he
        rcases List.mem_cons.mp he with rfl | he
        · exact fun h => hLL (Option.some.inj h).symm
        · exact hn env he
      · rcases List.mem_cons.mp he with rfl | he
        · intro h
          have : b = L' := (Option.some.inj h).symm
          rw [this] at e
          exact absurd (Nat.lt_of_lt_of_le (Heap.lt_size e) (hB0z ▸ F3.above)) (Nat.lt_irrefl _)
        · exact hne en he
end
end Mine
end
section
theorem Mine.begins_S6 : True := by
  w_top off
  trivial
open PySem PySem.W PyProof.Rows PySem.SeqAt PySem.Calls
set_option maxRecDepth 100000
set_option maxHeartbeats 4000000
namespace Mine
/-- the things that the set does not hold, up to the j-th -/
noncomputable def keptL (xs : List Str) (P : Str) (j : Nat) : List Str := ((List.range j).map (pathAt P)).filter fun y => !hasUpto xs xs.length y
theorem keptL_succ (xs : List Str) (P : Str) (j : Nat) : keptL xs P (j + 1) = keptL xs P j ++ (if hasUpto xs xs.length (pathAt P j) = true then [] else [pathAt P j]) := by
  unfold keptL
  rw [List.range_succ, List.map_append, List.filter_append]
  congr 1
  cases h : hasUpto xs xs.length (pathAt P j) <;> simp [h]
theorem keptL_skip {xs : List Str} {P : Str} {j : Nat} : ∀ d, (∀ i, j ≤ i → i < j + d → hasUpto xs xs.length (pathAt P i) = true) → keptL xs P (j + d) = keptL xs P j
  | 0, _ => rfl
  | d + 1, h => by
    rw [← Nat.add_assoc, keptL_succ, if_pos (h (j + d) (by omega) (by omega)), List.append_nil]
    exact keptL_skip d fun i h1 h2 => h i h1 (by omega)
theorem strsV_snoc {vs : List Value} {xs : List Str} (h : StrsV vs xs) (x : Str) (t : Tok) : StrsV (vs ++ [.str x t]) (xs ++ [x]) := by
  induction h with
  | nil => exact .cons .nil
  | cons h ih => exact .cons ih
theorem isSub_stop : isSubtype (.type "StopIteration") (.type "StopIteration") = pure true := isSubtype_stop
section
variable {w : World} {A : Around} {envs : List Env} {base g : Heap} {P : Str} {D L x : Addr} {gi n j : Nat} {xs : List Str} {s : Shared} {E : Value → Shared → Prop}
theorem ff_inst {s : Shared} (ff : FFat pg w (hideAll s.heap [L]) x D xs) : ∃ dx Bd, InstAt s.heap x (ffO dx Bd D) 82 (some (dictOf [] 0)) := by
  obtain ⟨dx, Bd, I⟩ := ff.inst
  exact ⟨dx, Bd, instKeep I fun b o e => of_hideAll _ e⟩
/-- the walk's step: its next, met by a built-in's loop -/
theorem c_pyNext {Q : Option Value → Shared → Prop} (C : NxC w A g P D L n xs envs base) (St : FSt w g P D L gi n x xs envs base j s)
    (item : ∀ j' t s', j ≤ j' → j' < n → (∀ i, j ≤ i → i < j' → hasUpto xs xs.length (pathAt P i) = true) → hasUpto xs xs.length (pathAt P j') = false → FSt w g P D L gi n x xs envs base (j' + 1) s' → KeepL L gi s s' → Q (some (.str (pathAt P j') t)) s')
    (stop : (∀ i, j ≤ i → i < n → hasUpto xs xs.length (pathAt P i) = true) → ∀ s' ea, StopL L gi envs s s' ea → Q none s') :
    wpAny (model pg w) A (pyNext (.ref x)) Q E s := by
  obtain ⟨mL, tL, FL, hmL⟩ := St.anc.fr
  obtain ⟨dx, Bd, I⟩ := ff_inst St.ff
  have hX := C.X
  unfold pg
  revert hX
  k_fill
  intro hX
  refine owit_next (f := 78) FL hX I (by k_is) (by k_is) ?_
  refine c_next C St (fun j' t s' h1 h2 h3 h4 h5 h6 => item j' t s' h1 h2 h3 h4 h5 h6) fun h1 s' ea h2 => ?_
  unfold OwitStop
  refine wpAny_isInstance h2.1 isSub_stop ?_
  show (if true = true then _ else _)
  rw [if_pos rfl]
  exact stop h1 s' ea h2
theorem hide2_up {h h' : Heap} {N : Addr} (k : ∀ b o, b ≠ L → b ≠ N → h.get? b = some o → h'.get? b = some o) : Ext (hideAll h [L, N]) (hideAll h' [L, N]) := fun b o e => by
  have hb : b ∉ [L, N] := fun hm => by rw [hideAll_none _ hm] at e; cases e
  have h1 : b ≠ L := fun h => hb (h ▸ .head _)
  have h2 : b ≠ N := fun h => hb (h ▸ .tail _ (.head _))
  exact hideAll_get _ (k b o h1 h2 (of_hideAll _ e)) hb
theorem hide2_one {h : Heap} {N : Addr} : Ext (hideAll h [L, N]) (hideAll h [L]) := fun b o e => by
  have hb : b ∉ [L, N] := fun hm => by rw [hideAll_none _ hm] at e; cases e
  exact hideAll_get _ (of_hideAll _ e) fun hm => hb (by rw [List.mem_singleton.mp hm]; exact .head _)
/-- the list that grows stands apart -/
structure Apart (D L N : Addr) (g base : Heap) (envs : List Env) : Prop where
  nl : L ≠ N
  nd : D ≠ N
  ng : g.get? N = none
  nb : base.get? N = none
  ne : ∀ en ∈ envs, en.frame ≠ some N
theorem FSt.upd {N : Addr} (p : Apart D L N g base envs) (St : FSt w g P D L gi n x xs envs base j s) (ff : FFat pg w (hideAll s.heap [L, N]) x D xs) {h' : Heap} {tk : Nat} (k : ∀ b o, b ≠ N → s.heap.get? b = some o → h'.get? b = some o) :
    FSt w g P D L gi n x xs envs base j { s with heap := h', toks := tk } := by
  obtain ⟨_, _, Fg, _⟩ := St.anc.fr
  exact ⟨St.le, St.anc.frame2 (fun o e => k _ o p.nd e) (fun o e => k _ o p.nl e) (fun b o e => k b o (fun h => by rw [h, p.ng] at e; cases e) (Fg.keep b o e)), (ff.keep (hide2_up fun b o _ hb e => k b o hb e)).keep hide2_one,
    fun b o e => k b o (fun h => by rw [h, p.nb] at e; cases e) (St.stays b o e), frames_keep k p.ne St.frames⟩
/-- what the whole walk into the list N leaves -/
noncomputable def ListEnd (L N : Addr) (gi n : Nat) (xs : List Str) (P : Str) (envs : List Env) (s s' : Shared) : Prop :=
  ∃ acc c, s'.heap.get? N = some (W.listOf acc c) ∧ StrsV acc.toList (keptL xs P n) ∧ (∀ b o, b ≠ L → b ≠ N → (∀ en ∈ envs, en.frame ≠ some b) → s.heap.get? b = some o → s'.heap.get? b = some o) ∧
    (∃ h₁ : Heap, (∀ b o, b ≠ L → b ≠ N → s.heap.get? b = some o → h₁.get? b = some o) ∧ h₁.UpToSlots s'.heap) ∧ GenOnlyQ gi s.gens s'.gens ∧ s'.drawn = s.drawn ∧ s'.os = s.os
theorem ListEnd.from {N : Addr} {s s₁ s₂ : Shared} (k : ∀ b o, b ≠ L → b ≠ N → s.heap.get? b = some o → s₁.heap.get? b = some o) (hG : GenOnlyQ gi s.gens s₁.gens) (hd : s₁.drawn = s.drawn) (ho : s₁.os = s.os) (e : ListEnd L N gi n xs P envs s₁ s₂) : ListEnd L N gi n xs P envs s s₂ := by
  obtain ⟨acc, c, h1, h2, h3, ⟨h₁, h4, h5⟩, h6, h7, h8⟩ := e
  exact ⟨acc, c, h1, h2, fun b o hb hn he e => h3 b o hb hn he (k b o hb hn e), ⟨h₁, fun b o hb hn e => h4 b o hb hn (k b o hb hn e), h5⟩, hG.trans h6, h7.trans hd, h8.trans ho⟩
/-- the loop that fills a list out of it -/
theorem ext_loop {R : Result → Shared → Prop} {N : Addr} {res : Value} (C : NxC w A.in1 g P D L n xs envs base) (hn : n ≤ 4096) (p : Apart D L N g base envs) :
    ∀ (k j : Nat) (s : Shared) (acc : Array Value) (c : Nat), n - j ≤ k → FSt w g P D L gi n x xs envs base j s → FFat pg w (hideAll s.heap [L, N]) x D xs →
      s.heap.get? N = some (W.listOf acc c) → StrsV acc.toList (keptL xs P j) → acc.size ≤ j →
      (∀ s', ListEnd L N gi n xs P envs s s' → R (.ok (.ret res)) s') →
      codeAny (model pg w) A (.builtin "list.extend.loop" ⟨[.ref N, .ref x, res], []⟩) R s := by
  intro k
  induction k with
  | zero =>
    intro j s acc c hk St ff hN hS hsz hR
    obtain rfl : j = n := Nat.le_antisymm St.le (by omega)
    refine codeAny_builtin F.entry_extend_loop ?_
    rw [Around.under_plainId F.plain_extend_loop _]
    show wpAny _ A.in1 (pyNext (.ref x) >>= _) _ _ s
    refine wpAny_bind (c_pyNext C St (fun j' _ _ h1 h2 => absurd h2 (by omega)) fun _ s' ea h => ?_)
    obtain ⟨_, h1, ⟨h₁, h2, h3⟩, h4, h5, h6⟩ := h
    exact wpAny_pure (hR s' ⟨acc, c, h1 N _ (Ne.symm p.nl) p.ne hN, hS, fun b o hb _ he e => h1 b o hb he e, ⟨h₁, fun b o hb _ e => h2 b o hb e, h3⟩, h4, h5, h6⟩)
  | succ k ih =>
    intro j s acc c hk St ff hN hS hsz hR
    refine codeAny_builtin F.entry_extend_loop ?_
    rw [Around.under_plainId F.plain_extend_loop _]
    show wpAny _ A.in1 (pyNext (.ref x) >>= _) _ _ s
    refine wpAny_bind (c_pyNext C St (fun j' t s' h1 h2 hall hno St' hk' => ?_) fun hall s' ea h => ?_)
    · obtain ⟨k1, k2, k3, k4⟩ := hk'
      have hN' := k1 N _ (Ne.symm p.nl) hN
      have ff' := ff.keep (hide2_up (N := N) fun b o hb _ e => k1 b o hb e)
      have hke : keptL xs P (j' + 1) = keptL xs P j ++ [pathAt P j'] := by
        rw [keptL_succ, hno, if_neg (by decide)]
        congr 1
        obtain ⟨d, rfl⟩ := Nat.le.dest h1
        exact keptL_skip d fun i a b => hall i a b
      show wpAny _ A.in1 (updateSeq N (·.push (.str (pathAt P j') t)) >>= _) _ _ _
      refine wpAny_bind ?_
      have kN : ∀ b o, b ≠ N → s'.heap.get? b = some o → (s'.heap.update N (Obj.mapSeq (·.push (.str (pathAt P j') t)))).get? b = some o := fun b o hb e => (Heap.get?_update_other _ _ (Ne.symm hb)).trans e
      refine wpAny_updateSeq hN' rfl (wpAny_pure ⟨plainId_quiet F.plain_extend_loop _, ih (j' + 1) _ (acc.push (.str (pathAt P j') t)) _ (by omega) (St'.upd (tk := s'.toks) p ff' kN) (ff'.keep (hide2_up fun b o _ hb e => kN b o hb e)) (Heap.get?_update_self _ hN' rfl) ?_ ?_ fun s'' e => ?_⟩)
        (by rw [sizeLine_eq]; omega) (by show (acc.push _).size ≤ sizeLine + 1; rw [Array.size_push, sizeLine_eq]; omega)
      · rw [Array.toList_push, hke]
        exact strsV_snoc hS _ _
      · rw [Array.size_push]; omega
      · exact hR s'' (ListEnd.from (s₁ := { s' with heap := s'.heap.update N (Obj.mapSeq (·.push (.str (pathAt P j') t))) }) (fun b o hb hn e => kN b o hn (k1 b o hb e)) k2 k3 k4 e)
    · obtain ⟨_, h1, ⟨h₁, h2, h3⟩, h4, h5, h6⟩ := h
      have hke : keptL xs P n = keptL xs P j := by
        obtain ⟨d, rfl⟩ := Nat.le.dest St.le
        exact keptL_skip d fun i a b => hall i a b
      exact wpAny_pure (hR s' ⟨acc, c, h1 N _ (Ne.symm p.nl) p.ne hN, hke ▸ hS, fun b o hb _ he e => h1 b o hb he e, ⟨h₁, fun b o hb _ e => h2 b o hb e, h3⟩, h4, h5, h6⟩)
/-- iter of it -/
theorem c_pyIter {Q : Value → Shared → Prop} (C : NxC w A g P D L n xs envs base) (St : FSt w g P D L gi n x xs envs base j s) (h : ∀ h' tk, Ext s.heap h' → Q (.ref x) { s with heap := h', toks := tk }) :
    wpAny (model pg w) A (pyIter (.ref x)) Q E s := by
  obtain ⟨mL, tL, FL, hmL⟩ := St.anc.fr
  obtain ⟨dx, Bd, I⟩ := ff_inst St.ff
  obtain ⟨hY, hP, hDL, hh, hf, hL, hne, hX, S1, ⟨loose, mean, mg, mb, T⟩, hdp, hup, hxl⟩ := C
  have Xs := hX.keeps FL.keep
  have Ts := T.keeps FL.keep
  obtain ⟨ha, dp, fr, gd, un⟩ := A
  obtain rfl : ha = none := hh
  obtain rfl : fr = some envs := hf
  dsimp only at hdp hup
  unfold pg
  revert hX Xs
  k_fill
  intro hX Xs
  refine owit_iter (f := 71) FL hX I (by k_is) (by k_is) ?_
  k_dflt (refine' pure_defG ?k3 ?k5 ?k6 ?k7 ?k8 ?k9 ?kB ?_ ?c2 ?c3 ?c4 ?c5; (case k3 => exact Xs); (case k5 => exact Ts); (case k6 => k_is); (case k7 => k_is); (case k8 => ktr_room); (case k9 => exact BindsTo.of_eq rfl); (case c5 => decide); (case kB => exact locs rfl); (case c2 => exact rfl); (case c3 => exact rfl); (case c4 => exact rfl))
  k_whole
  intro L' h' F' N'
  (try dsimp only)
  (try k_fold)
  walk1
  walk1
  walk1
  walk1
  have up := F'.keep
  exact owit_it (FL.keeps up) hX (instKeep I up) (by k_is) (h _ _ up)
/-- list of it -/
theorem list_own {Q : Value → Shared → Prop} (C : NxC w A g P D L n xs envs base) (hu : A.units + 64 < cLine) (hn : n ≤ 4096) (St : FSt w g P D L gi n x xs envs base 0 s)
    (h : ∀ N s', s.heap.get? N = none → ListEnd L N gi n xs P envs s s' → Q (.ref N) s') :
    wpAny (model pg w) A (call (.type "list") [.ref x]) Q E s := by
  have C1 : NxC w A.in1 g P D L n xs envs base := ⟨C.yields, C.len, C.ne, C.hh, C.hf, C.hL, C.hn, C.X, C.S1, C.T, C.hd, by show A.units + 1 + 60 < cLine; omega, C.hxl⟩
  have C2 : NxC w A.in1.in1 g P D L n xs envs base := ⟨C.yields, C.len, C.ne, C.hh, C.hf, C.hL, C.hn, C.X, C.S1, C.T, C.hd, by show A.units + 1 + 1 + 60 < cLine; omega, C.hxl⟩
  refine callType_codes (Q₁ := fun obj s₁ => obj = .ref s.heap.objs.size ∧ s₁ = { s with heap := s.heap.push { cls := .type "list", data := .seq #[] } }) F.called_list (F.typeCall_list_1 _) F.entry_list_init
    (code_list_new _ ⟨rfl, rfl⟩) fun obj s₁ h₁ => ?_
  obtain ⟨rfl, rfl⟩ := h₁
  generalize hN : s.heap.objs.size = N
  have hsN : s.heap.get? N = none := hN ▸ none_size s.heap
  generalize hH : s.heap.push { cls := .type "list", data := .seq #[] } = H
  have hS : H.get? N = some (W.listOf #[] 0) := by rw [← hH, ← hN]; exact Heap.get?_push_size _ rfl
  have old : Ext s.heap H := fun b o e => hH ▸ Heap.get?_push_of_some _ e
  have neN : ∀ {b o}, s.heap.get? b = some o → b ≠ N := fun e h => by rw [h, hsN] at e; cases e
  obtain ⟨mL, tL, FL, hmL⟩ := St.anc.fr
  obtain ⟨oL, hoL⟩ : ∃ oL, s.heap.get? L = some oL := by
    obtain ⟨o, _, _, ho, _⟩ := FL.ns
    exact ⟨o, ho⟩
  have p : Apart D L N g base envs := by
    refine ⟨neN hoL, ?_, ?_, ?_, ?_⟩
    · obtain ⟨o, _, _, ho, _⟩ := St.anc.gen
      exact neN ho
    · cases e : g.get? N with
      | none => rfl
      | some o => have := FL.keep _ _ e; rw [hsN] at this; cases this
    · cases e : base.get? N with
      | none => rfl
      | some o => have := St.stays _ _ e; rw [hsN] at this; cases this
    · intro en he h
      obtain ⟨o, ho, _⟩ := (St.frames.mem (List.mem_filterMap.mpr ⟨en, he, h⟩)).2
      rw [hsN] at ho; cases ho
  have ffN : FFat pg w (hideAll H [L, N]) x D xs := by
    refine St.ff.keep fun b o e => ?_
    have e' := of_hideAll _ e
    refine hideAll_get _ (old b o e') fun hm => ?_
    rcases List.mem_cons.mp hm with h | hm
    · rw [h, hideAll_none _ (.head _)] at e; cases e
    · exact neN e' (List.mem_singleton.mp hm)
  have StH : FSt w g P D L gi n x xs envs base 0 { s with heap := H, toks := s.toks } :=
    ⟨St.le, St.anc.frame2 (fun o e => old _ o e) (fun o e => old _ o e) fun b o e => old b o (FL.keep b o e), ffN.keep hide2_one, fun b o e => old b o (St.stays b o e), frames_keep (fun b o _ e => old b o e) C.hn St.frames⟩
  refine ⟨⟨_, hS, rfl⟩, F.args_list_init_2 _ _, ?_⟩
  show wpAny _ A.in1.in1 (do let old ← Builtin.List.listItems (.ref N); Builtin.List.listUpdate (.ref N) (fun _ => #[]); letGo old.toList.reverse; Builtin.List.listExtendWith (.ref N) (.ref x) .none) _ _ _
  refine wpAny_bind ?_
  unfold Builtin.List.listItems
  refine wpAny_bind (wpAny_seqItems hS rfl (wpAny_pure ?_))
  show wpAny _ A.in1.in1 (updateSeq N (fun _ => #[]) >>= fun _ => letGo (#[] : Array Value).toList.reverse >>= fun _ => Builtin.List.listExtendWith (.ref N) (.ref x) .none) _ _ _
  refine wpAny_bind (wpAny_updateSeq hS rfl ?_)
  have hS2 := Heap.get?_update_self (Obj.mapSeq (fun _ => (#[] : Array Value))) hS rfl
  have k2 : ∀ b o, b ≠ N → H.get? b = some o → (H.update N (Obj.mapSeq (fun _ => (#[] : Array Value)))).get? b = some o := fun b o hb e => (Heap.get?_update_other _ _ (Ne.symm hb)).trans e
  have St2 := StH.upd (tk := s.toks) p ffN k2
  have ff2 := ffN.keep (hide2_up fun b o _ hb e => k2 b o hb e)
  refine wpAny_bind (wpAny_letGo ?_)
  generalize H.update N (Obj.mapSeq (fun _ => (#[] : Array Value))) = H2 at hS2 k2 St2 ff2
  have hX := C.X
  obtain ⟨dx, Bd, I⟩ := ff_inst St2.ff
  obtain ⟨mL2, tL2, FL2, hmL2⟩ := St2.anc.fr
  have hNx : N ≠ x := by
    obtain ⟨_, _, _, _, _, e, _⟩ := ff2
    rintro rfl
    rw [hideAll_none _ (.tail _ (.head _))] at e; cases e
  have t1 : Builtin.List.listSameRef (.ref N) (.ref x) = false := by simp [Builtin.List.listSameRef, hNx]
  have t2 : (Value.ref 82 == Value.type "list") = false := by decide
  have t3 : (Value.ref 82 == Value.type "tuple") = false := by decide
  have C2' := C2
  unfold Builtin.List.listExtendWith
  refine wpAny_bind (I.type.here ?_)
  simp only [t1, t2, t3, Bool.or_false, Bool.false_eq_true, if_false]
  refine wpAny_bind (c_pyIter C2 St2 fun h3 tk3 up3 => ?_)
  have St3 : FSt w g P D L gi n x xs envs base 0 { s with heap := h3, toks := tk3 } :=
    ⟨St2.le, St2.anc.frame2 (fun o e => up3 _ o e) (fun o e => up3 _ o e) fun b o e => up3 b o (FL2.keep b o e), (ff2.keep (hide2_up fun b o _ _ e => up3 b o e)).keep hide2_one, fun b o e => up3 b o (St2.stays b o e), frames_keep (fun b o _ e => up3 b o e) C.hn St2.frames⟩
  have ff3 := ff2.keep (hide2_up (N := N) (L := L) fun b o _ _ e => up3 b o e)
  refine wpAny_bind (wpAny_holding ?_)
  unfold Builtin.List.listLengthHint
  have I3 := instKeep I up3
  have X3 := hX.keeps (FL2.keeps up3).keep
  revert hX X3
  k_fill
  intro hX X3
  refine wpAny_bind (wpAny_bind (I3.type.here ((looks_findIn (name := "__len__") (r := none) X3 (by k_is)).here ?_)))
  show wpAny _ A.in1.in1 (specialOf (Value.ref x) (Str.ofString "__length_hint__") >>= _) _ _ _
  refine wpAny_bind (wpAny_bind (I3.type.here ((looks_findIn (name := "__length_hint__") (r := none) X3 (by k_is)).here ?_)))
  refine wpAny_pure ?_
  show wpAny _ A.in1.in1 (rule "list.extend.makes-room" >>= fun _ => Builtin.List.listTouch (.ref N) >>= fun _ => again (.builtin "list.extend.loop" ⟨[.ref N, .ref x, .none], []⟩)) _ _ _
  refine wpAny_bind (wpAny_rule (wpAny_bind ?_))
  have hS3 := up3 _ _ hS2
  show wpAny _ A.in1.in1 (updateSeq N (·.push .none) >>= fun _ => updateSeq N (·.pop)) _ _ _
  refine wpAny_bind (wpAny_updateSeq hS3 rfl ?_)
  have hS4 := Heap.get?_update_self (Obj.mapSeq (·.push Value.none)) hS3 rfl
  refine wpAny_updateSeq (hz := by seq_fits) hS4 rfl ?_
  have hS5 := Heap.get?_update_self (Obj.mapSeq (·.pop)) hS4 rfl
  have k5 : ∀ b o, b ≠ N → h3.get? b = some o → ((h3.update N (Obj.mapSeq (·.push Value.none))).update N (Obj.mapSeq (·.pop))).get? b = some o :=
    fun b o hb e => (Heap.get?_update_other _ _ (Ne.symm hb)).trans ((Heap.get?_update_other _ _ (Ne.symm hb)).trans e)
  refine wpAny_pure ⟨plainId_quiet F.plain_extend_loop _, ext_loop C2 hn p n 0 _ _ _ (Nat.le_refl _) (St3.upd (tk := tk3) p ff3 k5) (ff3.keep (hide2_up fun b o _ hb e => k5 b o hb e)) hS5 .nil (Nat.le_refl _) fun s' e => ⟨rfl, ?_⟩⟩
  refine h N s' hsN ?_
  refine ListEnd.from (s₁ := { s with heap := (h3.update N (Obj.mapSeq (·.push Value.none))).update N (Obj.mapSeq (·.pop)), toks := tk3 }) (fun b o hb hbn e => k5 b o hbn (up3 b o (k2 b o hbn (old b o e)))) (.inl rfl) rfl rfl e
end
end Mine
end
section
theorem Mine.begins_S7 : True := by
  w_top off
  trivial
open PySem PySem.W PyProof.Rows PySem.SeqAt PySem.Calls
set_option maxRecDepth 100000
set_option maxHeartbeats 4000000
namespace Mine
theorem PCl.useVE {w : World} {f : Value} {vs : List Value} {d u : Nat} {G : Tok → Value} (C : PCl w f vs d u (RV G))
    {A A₀ : Around} {env : Env} {outer : List Env} {base h₀ : Heap} {L : Addr} {m : Str → Option Value} {s : Shared} {Q E : Value → Shared → Prop}
    {loose : List Str} {mean : ExcName → Option Value} {mg mb : Str → Option Value} {news : List (Addr × Obj)}
    (B : Below A₀ base outer h₀) (F : Fr h₀ L s.heap m) (X : (hd.heap_39 w.params).In h₀) (S1 : Extra w h₀) (N : News h₀ L s.heap news) (T : Top qv loose mean mg mb h₀)
    (hh : A.handled = none) (hA : A.frames = some (env :: outer)) (hf : env.frame = some L) (hk : env.scope.kind = .function)
    (hd : A.depth + d < recursionLimit) (hu : A.units + u < cLine)
    (ret : ∀ t h' tk', Fr h₀ L h' m → News h₀ L h' news → Ext s.heap h' → Q (G t) { s with heap := h', toks := tk' }) :
    wpAny (model pg w) A (call f vs) Q E s :=
  C.use B F X S1 N T hh hA hf hk hd hu fun v h' tk' F' N' k r => by obtain ⟨t, rfl⟩ := r; exact ret t h' tk' F' N' k
theorem AncSt.to {w : World} {g : Heap} {P : Str} {D L : Addr} {gi n i : Nat} {s s' : Shared} (st : AncSt w g P D L gi n i s) (up : Ext s.heap s'.heap) (hg : ∀ gs, s.gens[gi]? = some gs → s'.gens[gi]? = some gs) : AncSt w g P D L gi n i s' := by
  obtain ⟨⟨o, nm, qn, ho, r⟩, ⟨m, t, F, hm⟩, gs, h1, h2⟩ := st
  exact ⟨⟨o, nm, qn, up D o ho, r⟩, ⟨m, t, F.keeps up, hm⟩, gs, hg gs h1, h2⟩
theorem Ext.trans {h₁ h₂ h₃ : Heap} (a : Ext h₁ h₂) (b : Ext h₂ h₃) : Ext h₁ h₃ := fun x o e => b x o (a x o e)
theorem gen_base {h₀ g : Heap} {L : Addr} {m : Str → Option Value} {news : List (Addr × Obj)} (F : Fr h₀ L g m) (N : News h₀ L g news) : h₀.get? g.objs.size = none ∧ L < g.objs.size ∧ (∀ p ∈ news, p.1 < g.objs.size) := by
  refine ⟨?_, F.ns.lt, fun p hp => Heap.lt_size (N p hp).1⟩
  cases e : h₀.get? g.objs.size with
  | none => rfl
  | some o => exact absurd (Heap.lt_size (F.keep _ _ e)) (Nat.lt_irrefl _)
theorem anc_there {w : World} {g : Heap} {P : Str} {D L : Addr} {gi n i : Nat} {s : Shared} (st : AncSt w g P D L gi n i s) : s.heap.get? L ≠ none := by
  obtain ⟨_, _, Fg, _⟩ := st.fr
  obtain ⟨o, _, _, ho, _⟩ := Fg.ns
  rw [ho]; exact fun h => by cases h
theorem after_list {h₀ h h1 h6 : Heap} {L0 L1 N6 : Addr} {m : Str → Option Value} {news : List (Addr × Obj)} {o6 : Obj} (F : Fr h₀ L0 h m) (N : News h₀ L0 h news) (hz : L0 = h₀.objs.size) (hL1 : h₀.get? L1 = none) (hL : L0 ≠ L1) (hp : ∀ p ∈ news, p.1 ≠ L1) (hN : h.get? N6 = none)
    (k : ∀ b o, b ≠ L1 → b ≠ N6 → b ≠ L0 → h.get? b = some o → h6.get? b = some o) (k1 : ∀ b o, b ≠ L1 → b ≠ N6 → h.get? b = some o → h1.get? b = some o) (u : h1.UpToSlots h6) (ho : h6.get? N6 = some o6) :
    Fr h₀ L0 h6 m ∧ News h₀ L0 h6 ((N6, o6) :: news) ∧ AllNe N6 news := by
  have hNL : L0 ≠ N6 := by
    rintro rfl
    obtain ⟨o, _, _, ho, _⟩ := F.ns
    rw [hN] at ho; cases ho
  have n1 : ∀ b o, h₀.get? b = some o → b ≠ L1 ∧ b ≠ N6 ∧ b ≠ L0 := fun b o e => ⟨fun h => (by rw [h, hL1] at e; cases e), fun h => (by have := F.keep b o e; rw [h, hN] at this; cases this), fun h => (by rw [h, hz, none_size] at e; cases e)⟩
  have F1 : Fr h₀ L0 h1 m := ⟨F.ns.at' fun o e => k1 _ o hL hNL e, fun b o e => k1 b o (n1 b o e).1 (n1 b o e).2.1 (F.keep b o e), F.above⟩
  have nN : ∀ p ∈ news, p.1 ≠ N6 := fun p hp h => by have := (N p hp).1; rw [h, hN] at this; cases this
  refine ⟨F1.of_stays (fun b o e => k b o (n1 b o e).1 (n1 b o e).2.1 (n1 b o e).2.2 (F.keep b o e)) u, fun p hp' => ?_, allNe_of nN⟩
  rcases List.mem_cons.mp hp' with rfl | hp'
  · refine ⟨ho, Ne.symm hNL, ?_⟩
    cases e : h₀.get? N6 with
    | none => rfl
    | some o => have := F.keep _ _ e; rw [hN] at this; cases this
  · exact ⟨k _ _ (hp p hp') (nN p hp') (N p hp').2.1 (N p hp').1, (N p hp').2⟩
section
variable {w : World} {h₀ : Heap} {fa : Addr} {cd : Value} {m : Str → Option Value} {s : Shared} {Q : Flow → Shared → Prop} {E : Value → Shared → Prop} {loose : List Str} {mean : ExcName → Option Value} {mg mb : Str → Option Value} {oc op : Obj} {cv pv : Option Value}
local macro_rules | `(tactic| walk_at "call ref") => `(tactic| (k_here; (with_reducible show wpAny _ _ (call (Value.ref 176) _) _ _ _); k_dflt (refine' PCl.useVE (c_prep _ _ _ ?q1) ?k1 ?k2 ?k3 ?k4 ?k5 ?k6 ?k7 ?k8 ?k9 ?k10 ?k11 ?k12 ?_; (case k1 => k_asm); (case k2 => k_asm); (case k3 => k_asm); (case k4 => first | assumption | exact Extra.fr (by assumption) (by assumption)); (case k5 => k_asm); (case k6 => k_asm); (case k7 => exact rfl); (case k8 => exact rfl); (case k9 => exact rfl); (case k10 => first | exact rfl | assumption); (case k11 => ktr_room); (case k12 => ktr_units); (case q1 => omega)); intro t9 h9 tk9 F9 N9 up9; (try dsimp only); (try k_fold)))
theorem st16 {D e tl : Addr} {x o : Str} {tx tO : Tok} {news : List (Addr × Obj)} {i : Nat} {n n2 : Nat} {g0 : Str} {tg0 : Tok} (K0 : Below callerA h₀ [] h₀) (X : (hd.heap_39 w.params).In h₀) (S1 : Extra w h₀) (T : Top qv loose mean mg mb h₀)
    (F : Fr h₀ h₀.objs.size s.heap m) (hJ : GJ D e tl x tx o tO news i m news) (N : News h₀ h₀.objs.size s.heap news) (hv6 : m (Str.ofString "great") = some (.str g0 tg0))
    (hxl : x.length ≤ 200) (hgl2 : g0.length ≤ 400) (hY : Yields (prep x) n) (hpl : (prep x).length ≤ 4096) (hn : n ≤ 900) (hY2 : Yields (prep g0) n2) (hpl2 : (prep g0).length ≤ 4096) (hn2 : n2 ≤ 900)
    (ret : ∀ s' m' fr acc c, GJ D e tl x tx o tO news i m' news → m' (Str.ofString "fresh") = some (.ref fr) → Fr h₀ h₀.objs.size s'.heap m' → News h₀ h₀.objs.size s'.heap ((fr, W.listOf acc c) :: news) → AllNe fr news → StrsV acc.toList (keptL (ancL (prep g0) n2) (prep x) n) → (AllBare s.gens → AllBare s'.gens) → s'.os = s.os → Q .next s') :
    wpAny (model pg w) (lA h₀ fa cd) (exec (lawRec.body.tail.tail.tail.tail.tail.tail.tail.tail.tail.tail.tail.tail.tail.tail.tail.tail.headD nil0) (lenv h₀ fa cd)) Q E s := by
  unfold pg
  revert X
  k_fill
  intro X
  have hJ0 := hJ
  obtain ⟨_, v1, v2, v3, v4, v5, g, tg, v6, hg, hgl⟩ := hJ
  rw [put_same hv6, put_same v2] at F
  unfold lA lenv lawRec lawRecOf
  dsimp only [List.tail_cons, List.headD_cons]
  have hxl' : x.length ≤ 65536 := Nat.le_trans hxl (by decide)
  have hgl' : g0.length ≤ 65536 := Nat.le_trans hgl2 (by decide)
  k_steps
  rename Fr _ _ _ _ => F1
  rename News _ _ _ _ => N1
  refine' anc_call (n := n) ?kX ?kT ?kr ?_
  case kX => exact X.keeps F1.keep
  case kT => exact T.keeps F1.keep
  case kr => ktr_room
  intro D1 h2 tk2 gs1 St1 hb1 hDL hn1 up2
  have F2 := F1.keeps up2
  have N2 : News h₀ h₀.objs.size h2 news := fun p hp => ⟨up2 _ _ (N1 p hp).1, (N1 p hp).2⟩
  k_steps
  rename Fr _ _ _ _ => F3
  rename News _ _ _ _ => N3
  rename Ext _ _ => up3
  have B3 := pushX (env := lenv h₀ fa cd) K0 F3 rfl rfl
  refine list_anc (n := n2) rfl B3 rfl (X.keeps F3.keep) (S1.fr F3) (T.keeps F3.keep) (by ktr_room) (by ktr_units) hY2 hpl2 (by omega) fun s4 D4 acc4 c4 up4 hD4 hl4 hS4 hab4 hdr4 hos4 hgens4 => ?_
  have F4 := F3.keeps up4
  have N4 : News h₀ h₀.objs.size s4.heap news := fun p hp => ⟨up4 _ _ (N3 p hp).1, (N3 p hp).2⟩
  have St4 := St1.to (s' := s4) (Ext.trans up3 up4) fun gs e => hgens4 _ gs e
  have B4 := pushX (env := lenv h₀ fa cd) K0 F4 rfl rfl
  have gX := X.keeps F1.keep
  have gS := S1.fr F1
  have gT := T.keeps F1.keep
  have G1 := gen_base F1 N1
  clear F3 N3 F2 N2 F1 N1 F N
  walk1
  walk1
  (refine' c_diff (envs := [lenv h₀ fa cd]) (gi := s.gens.size) (vs := acc4.toList) (xs := ancL (prep g0) n2) ?k1 ?k2 ?k3 ?k4 ?k5 ?k6 ?k7 ?k8 ?k9 ?k10 ?k11 ?k12 ?_; (case k1 => exact rfl); (case k2 => exact B4); (case k3 => exact rfl); (case k4 => exact X.keeps F4.keep); (case k5 => exact S1.fr F4); (case k6 => exact T.keeps F4.keep); (case k7 => ktr_room); (case k8 => ktr_units); (case k9 => exact St4.gen); (case k10 => exact ⟨_, hl4, rfl, c4, by rw [Array.toArray_toList]⟩); (case k11 => exact hS4); (case k12 => (simp [ancL]; omega)))
  intro x5 h5 tk5 up5 ff5 hx5
  have F5 := F4.keeps up5
  have N5 : News h₀ h₀.objs.size h5 news := fun p hp => ⟨up5 _ _ (N4 p hp).1, (N4 p hp).2⟩
  have B5 := pushX (env := lenv h₀ fa cd) K0 F5 rfl rfl
  walk1
  have St5 := St4.to (s' := { s4 with heap := h5, toks := tk5 }) up5 fun gs e => e
  refine list_own (envs := [lenv h₀ fa cd]) (base := h₀) (xs := ancL (prep g0) n2) ⟨hY, hpl, hDL, rfl, rfl, G1.1, ?_, gX, gS, ⟨_, _, _, _, gT⟩, by ktr_room, by ktr_units, by simp [ancL]; omega⟩ (by ktr_units) (by omega) ⟨Nat.zero_le _, St5, ff5 _ (anc_there St4), F5.keep, B5.frames⟩ fun N6 s6 hN6 e6 => ?_
  · intro env he
    rw [List.mem_singleton.mp he]
    exact fun h => absurd G1.2.1 (by rw [← Option.some.inj h]; exact Nat.lt_irrefl _)
  obtain ⟨acc6, c6, hl6, hS6, k6, ⟨h1', k6', u6⟩, hG6, hd6, ho6⟩ := e6
  obtain ⟨F7, N7, n7⟩ := after_list F5 N5 rfl G1.1 (Nat.ne_of_lt G1.2.1) (fun p hp => Nat.ne_of_lt (G1.2.2 p hp)) hN6 (fun b o h1 h2 h3 e => k6 b o h1 h2 (fun en he => by rw [List.mem_singleton.mp he]; exact fun h => h3 (Option.some.inj h).symm) e) k6' u6 hl6
  have hab : AllBare s.gens → AllBare s6.gens := fun hb => (hab4 (AllBare.push hb hb1)).moved hG6
  have hos : s6.os = s.os := ho6.trans hos4
  clear F5 N5 B5 St5 ff5 k6 k6' u6
  k_steps
  rename Fr _ _ _ _ => F8
  rename News _ _ _ _ => N8
  refine ret _ _ N6 acc6 c6 ⟨rfl, ?_, ?_, ?_, ?_, ?_, g, tg, ?_, hg, hgl⟩ ?_ F8 N8 n7 hS6 hab hos
  · exact (if_neg (by decide)).trans ((if_neg (by decide)).trans ((if_neg (by decide)).trans v1))
  · exact (if_neg (by decide)).trans ((if_neg (by decide)).trans (if_pos rfl))
  · exact (if_neg (by decide)).trans ((if_neg (by decide)).trans ((if_neg (by decide)).trans v3))
  · exact (if_neg (by decide)).trans ((if_neg (by decide)).trans ((if_neg (by decide)).trans v4))
  · exact (if_neg (by decide)).trans ((if_neg (by decide)).trans ((if_neg (by decide)).trans v5))
  · exact (if_neg (by decide)).trans ((if_pos rfl).trans (hv6.symm.trans v6))
  · exact if_pos rfl
end
end Mine
end
section
theorem Mine.begins_S8 : True := by
  w_top off
  trivial
open PySem PySem.W PyProof.Rows PySem.SeqAt PySem.Calls
set_option maxRecDepth 100000
set_option maxHeartbeats 4000000
namespace Mine
noncomputable def leftScope : Scope := { kind := .function, names := [(Str.ofString ".0", .local), (Str.ofString "path", .local), (Str.ofString "cuts", .free)], isGenerator := false, isCoroutine := false }
noncomputable def strOf (v : Value) : Str := match v with | .str x _ => x | _ => ⟨#[]⟩
theorem StrsV.are' : ∀ {vs : List Value} {xs : List Str}, StrsV vs xs → StrsAre vs xs
  | _, _, .nil => .nil
  | _, _, .cons h => .cons _ _ (StrsV.are' h)
section
variable {w : World} {A : Around} {C cu : Addr} {env : Env} {s : Shared} {m₃ : Str → Option Value} {E : Value → Shared → Prop} {p1 p2 p3 p4 : Pos} {y : Str} {t : Tok} {c : Addr} {cs : List Value} {xs : List Str}
theorem el_left (hcell : s.heap.IsCell c (some (.ref cu))) (hl : s.heap.IsList cu cs.toArray) (hcs : StrsV cs xs) (hx : (compEnvC leftScope [(Str.ofString "cuts", c)] C env).kindOf (Str.ofString "cuts") = some .cell) (hn : s.heap.Ns C m₃) (hm : m₃ (Str.ofString "path") = some (.str y t)) :
    wpAny (model pg w) A (isTrue (.Compare (.Name (Str.ofString "path") p1) [.NotIn] [.Name (Str.ofString "cuts") p2] p3) (compEnvC leftScope [(Str.ofString "cuts", c)] C env) (eval (.Compare (.Name (Str.ofString "path") p1) [.NotIn] [.Name (Str.ofString "cuts") p2] p3) (compEnvC leftScope [(Str.ofString "cuts", c)] C env)))
      (fun ok s₄ => ok = (!(xs.any (· == y))) ∧ Keeps s s₄) E s := by
  have cE' := InElt.start s.heap
  walk1
  walk1
  refine wpAny_Name (wpAny_loadName_cell (by rfl) hx (by rfl) hcell ?_) (by decide)
  refine notin_list_strs hl hcs.are' ?_
  walk1
  exact ⟨rfl, s.heap, s.toks, rfl, fun _ _ e => e⟩
theorem el_path {E : Value → Shared → Prop} (hn : s.heap.Ns C m₃) (hm : m₃ (Str.ofString "path") = some (.str y t)) :
    wpAny (model pg w) A (eval (.Name (Str.ofString "path") p1) (compEnvC leftScope [(Str.ofString "cuts", c)] C env)) (fun y' s₄ => (∃ u, y' = .str y u) ∧ Keeps s s₄) E s := by
  refine wpAny_Name (wpAny_loadName_local (by rfl) (by rfl) hn hm ?_) (by decide)
  exact ⟨⟨t, rfl⟩, s.heap, s.toks, rfl, fun _ _ e => e⟩
theorem left_paired {p : Str → Bool} : ∀ {ts ys : List Value} {zs : List Str}, StrsV ts zs → Paired (fun v y' => ∃ u, y' = .str (strOf v) u) (ts.filter fun v => p (strOf v)) ys → StrsV ys (zs.filter p)
  | _, _, _, .nil, .nil => .nil
  | _, ys, _, .cons (x := x) (t := t) h, hp => by
    rw [List.filter_cons] at hp ⊢
    have e : p (strOf (.str x t)) = p x := rfl
    rw [e] at hp
    cases hb : p x with
    | false => rw [hb, if_neg (by decide)] at hp; rw [if_neg (by decide)]; exact left_paired h hp
    | true =>
      rw [hb, if_pos rfl] at hp
      rw [if_pos rfl]
      cases hp with
      | cons hy hr =>
        obtain ⟨u, rfl⟩ := hy
        exact .cons (left_paired h hr)
theorem comp_left {Q : Value → Shared → Prop} {iter : PySem.Expr} {p5 p6 : Pos} {zs : List Str} (hclos : closureFor leftScope env = pure [(Str.ofString "cuts", c)]) (hh : A.handled = none) (hx : ∀ C, (compEnvC leftScope [(Str.ofString "cuts", c)] C env).kindOf (Str.ofString "cuts") = some .cell)
    (h : wpAny (model pg w) A (eval iter env) (fun v s₁ => ∃ D ts, v = .ref D ∧ s₁.heap.IsList D ts.toArray ∧ StrsV ts zs ∧ ts.length ≤ sizeLine ∧ s₁.heap.IsCell c (some (.ref cu)) ∧ s₁.heap.IsList cu cs.toArray ∧ StrsV cs xs ∧
      (∀ N h' tk ys, s₁.heap.get? N = none → h'.PlainList N ys.toArray → StrsV ys (zs.filter fun y => !(xs.any (· == y))) → Ext s₁.heap h' → Q (.ref N) { s₁ with heap := h', toks := tk })) E s)
    (hs : ∀ x, foldedSetIterable iter env x = pure x) :
    wpAny (model pg w) A (eval (.ListComp (.Name (Str.ofString "path") p1) [⟨.Name (Str.ofString "path") p5, iter, [.Compare (.Name (Str.ofString "path") p2) [.NotIn] [.Name (Str.ofString "cuts") p3] p4], 0⟩] leftScope p6) env) Q E s := by
  refine wpAny_ListComp_free (cl := [(Str.ofString "cuts", c)]) (fun v => !(xs.any (· == strOf v))) (fun v y' => ∃ u, y' = .str (strOf v) u) hclos (by decide) rfl (by decide) (by rfl) ?_ hs
  refine wpAny_mono h (fun v s₁ h₁ => ?_) fun _ _ e => e
  obtain ⟨D, ts, rfl, hl, hS, hsz, ⟨co, hco, hcd⟩, ⟨lc, hlc, hlcr⟩, hcs, hQ⟩ := h₁
  obtain ⟨lo, hlo, hlr⟩ := hl
  have hDI : D ≠ s₁.heap.objs.size := Nat.ne_of_lt (Heap.lt_size hlo)
  have hcI : c ≠ s₁.heap.objs.size := Nat.ne_of_lt (Heap.lt_size hco)
  have huI : cu ≠ s₁.heap.objs.size := Nat.ne_of_lt (Heap.lt_size hlc)
  have hnew := none_size s₁.heap
  have sv : ∀ {i : Nat} {v : Value}, ts.toArray[i]? = some v → ∃ x t, v = .str x t := fun hP => by
    obtain ⟨x, t, _, e⟩ := strsV_at hS (by simpa using hP)
    exact ⟨x, t, e⟩
  refine wpAny_pyIter_list ⟨lo, hlo, hlr⟩ ?_
  refine ⟨s₁.heap.objs.size, [s₁.heap.objs.size, D], [s₁.heap.objs.size], ts.toArray.size, _, _, rfl, Walks.list hh _ D hDI ts.toArray, by simpa using hsz, ⟨⟨_, Heap.get?_push_size _ rfl, rfl, rfl⟩, ⟨lo, Heap.get?_push_of_some _ hlo, hlr⟩⟩, ?_, ⟨?_, ?_⟩, ?_⟩
  · intro b hb
    show b < (s₁.heap.push _).objs.size
    rw [Heap.size_push]
    rcases List.mem_cons.mp hb with rfl | hb
    · exact Nat.lt_succ_self _
    · rw [List.mem_singleton.mp hb]; exact Nat.lt_succ_of_lt (Heap.lt_size hlo)
  · intro C i v s₃ m₃ E' _ hP hn hm hk _
    obtain ⟨y, t, rfl⟩ := sv hP
    exact wpAny_tests_one (el_left ⟨co, hk c co (fun h => hcI (List.mem_singleton.mp h)) (Heap.get?_push_of_some _ hco), hcd⟩ ⟨lc, hk cu lc (fun h => huI (List.mem_singleton.mp h)) (Heap.get?_push_of_some _ hlc), hlcr⟩ hcs (hx C) hn hm)
  · intro C i v s₃ m₃ E' _ hP hp hn hm hk _
    obtain ⟨y, t, rfl⟩ := sv hP
    exact el_path hn hm
  · intro N h' tk ys vs hN hlN hplN hlen hP hF hk
    have e := vs_eq (ws := ts) (by simpa using hlen) hP
    subst e
    have up : Ext s₁.heap h' := fun b o e => hk b o (fun hm => by rw [List.mem_singleton.mp hm, hnew] at e; cases e) (Heap.get?_push_of_some _ e)
    refine hQ N h' tk ys.toList ?_ (by rw [Array.toArray_toList]; exact hplN) (left_paired hS hF) up
    cases e : s₁.heap.get? N with
    | none => rfl
    | some o => rw [Heap.get?_push_of_some _ e] at hN; cases hN
end
section
variable {w : World} {h₀ : Heap} {fa : Addr} {cd : Value} {m : Str → Option Value} {s : Shared} {Q : Flow → Shared → Prop} {E : Value → Shared → Prop} {loose : List Str} {mean : ExcName → Option Value} {mg mb : Str → Option Value} {oc op : Obj} {cv pv : Option Value}
theorem st17 {fr tl cu : Addr} {news : List (Addr × Obj)} {acc : Array Value} {c kt kc : Nat} {ts cs : List Value} {zs xs ls : List Str} (K0 : Below callerA h₀ [] h₀) (X : (hd.heap_39 w.params).In h₀) (S1 : Extra w h₀) (T : Top qv loose mean mg mb h₀)
    (F : Fr h₀ h₀.objs.size s.heap m) (N : News h₀ h₀.objs.size s.heap news) (hv1 : m (Str.ofString "fresh") = some (.ref fr)) (hv2 : m (Str.ofString "told") = some (.ref tl))
    (hfr : (fr, W.listOf acc c) ∈ news) (htl : (tl, W.listOf ts.toArray kt) ∈ news) (hcu : (cu, W.listOf cs.toArray kc) ∈ news) (hoc : (h₀.objs.size + 1 + 1, oc) ∈ news) (hcd2 : oc.data = .cell (some (.ref cu)))
    (hS1 : StrsV acc.toList ls) (hS2 : StrsV ts zs) (hS3 : StrsV cs xs) (hzl : zs.length ≤ 100) (he : ls = zs.filter fun y => !(xs.any (· == y)))
    (ret : ∀ h' tk', Fr h₀ h₀.objs.size h' m → News h₀ h₀.objs.size h' news → Q (.ret (.bool true)) { s with heap := h', toks := tk' }) :
    wpAny (model pg w) (lA h₀ fa cd) (exec (lawRec.body.tail.tail.tail.tail.tail.tail.tail.tail.tail.tail.tail.tail.tail.tail.tail.tail.tail.headD nil0) (lenv h₀ fa cd)) Q E s := by
  unfold pg
  revert X
  k_fill
  intro X
  rw [put_same hv1, put_same hv2] at F
  unfold lA lenv lawRec lawRecOf
  dsimp only [List.tail_cons, List.headD_cons]
  walk1
  walk1
  walk1
  rename Fr _ _ _ _ => F1
  refine comp_left (c := h₀.objs.size + 1 + 1) (cu := cu) (cs := cs) (xs := xs) (zs := zs) (by rfl) rfl (fun _ => rfl) ?_ (fun _ => rfl)
  walk1
  refine ⟨tl, ts, rfl, ⟨_, (N _ htl).1, rfl, kt, rfl⟩, hS2, by rw [strsV_len hS2, sizeLine_eq]; omega, ⟨_, (N _ hoc).1, hcd2⟩, ⟨_, (N _ hcu).1, rfl, kc, rfl⟩, hS3, fun D2 h' tk' ys hN2 ⟨ky, hy⟩ hSy up => ?_⟩
  have F2 := F1.keeps up
  have N2 : News h₀ h₀.objs.size h' news := fun p hp => ⟨up _ _ (N p hp).1, (N p hp).2⟩
  rw [← he] at hSy
  clear F1 N
  refine eq_same (vs := acc.toList) (us := ys) (xs := ls) ⟨_, (N2 _ hfr).1, rfl, c, by rw [Array.toArray_toList]⟩ ⟨_, hy, rfl, ky, rfl⟩ hS1 hSy (by ktr_units) ?_
  refine ret h' tk' ?_ N2
  rw [put_same hv1, put_same hv2]
  exact F2
end
end Mine
end
section
open PySem PySem.W PyProof.Rows
set_option maxRecDepth 100000
set_option maxHeartbeats 4000000
namespace Mine
/-- the plain law, apart from the walk: lists of signs -/
noncomputable def NoSl (l : List Nat) : Prop := ∀ c ∈ l, c ≠ 47
noncomputable def rstripL (l : List Nat) : List Nat := (l.reverse.dropWhile (· == 47)).reverse
theorem dropWhile_rep (k : Nat) (l : List Nat) : (List.replicate k 47 ++ l).dropWhile (· == 47) = l.dropWhile (· == 47) := by
  induction k with
  | zero => rfl
  | succ k ih => rw [List.replicate_succ, List.cons_append, List.dropWhile_cons, if_pos (by rfl), ih]
theorem rstripL_rep (A : List Nat) (k : Nat) : rstripL (A ++ List.replicate k 47) = rstripL A := by
  unfold rstripL
  rw [List.reverse_append, List.reverse_replicate, dropWhile_rep]
theorem rstripL_all (k : Nat) : rstripL (List.replicate k 47) = [] := by
  have := rstripL_rep [] k
  rw [List.nil_append] at this
  rw [this]; rfl
/-- a list that ends in a sign that is no slash -/
noncomputable def Ends (l : List Nat) : Prop := ∃ A c, l = A ++ [c] ∧ c ≠ 47
theorem Ends.strip {l : List Nat} (h : Ends l) : rstripL l = l := by
  obtain ⟨A, c, rfl, hc⟩ := h
  unfold rstripL
  rw [List.reverse_append, List.reverse_singleton, List.singleton_append, List.dropWhile_cons, if_neg (by simpa using hc), List.reverse_cons, List.reverse_reverse]
theorem Ends.ne {l : List Nat} (h : Ends l) : l ≠ [] := by
  obtain ⟨A, c, rfl, _⟩ := h; simp
theorem ends_app {A B : List Nat} (hB : NoSl B) (hn : B ≠ []) : Ends (A ++ B) := by
  obtain ⟨B', c, rfl⟩ : ∃ B' c, B = B' ++ [c] := ⟨_, _, (List.dropLast_concat_getLast hn).symm⟩
  exact ⟨A ++ B', c, by rw [List.append_assoc], hB c (by simp)⟩
theorem strip_cl (x : Str) : cl (Txt.rstripChars x (Str.ofString "/")) = rstripL (cl x) := by
  have hs : (Str.ofString "/").cps.contains = fun c => c == 47 := by
    funext c
    show (#[47] : Array Nat).contains c = _
    rw [Bool.eq_iff_iff]; simp
  unfold Txt.rstripChars
  rw [PyProof.Rows.stripBy_eq, hs]
  simp only [cl]
  rw [StrLaws.strSub_toList]
  simp only [stripLo, stripHi, Bool.false_eq_true, if_false, if_true, List.drop_zero, Nat.sub_zero]
  unfold rstripL
  have hl : x.length = x.cps.toList.length := by simp [Str.length]
  rw [hl]
  generalize x.cps.toList = l
  have h := List.takeWhile_append_dropWhile (p := fun c : Nat => c == 47) (l := l.reverse)
  have hr : l = (l.reverse.dropWhile (· == 47)).reverse ++ (l.reverse.takeWhile (· == 47)).reverse := by
    rw [← List.reverse_append, h, List.reverse_reverse]
  have hlen : l.length - (l.reverse.takeWhile (· == 47)).length = (l.reverse.dropWhile (· == 47)).reverse.length := by
    have := congrArg List.length hr
    simp only [List.length_append, List.length_reverse] at this ⊢
    omega
  rw [hlen]
  conv => lhs; rw [hr]
  simp
theorem slice_cl {x : Str} {j : Int} (h : 0 ≤ j ∧ j ≤ (cl x).length) : cl (Txt.slice x none (some j)) = (cl x).take j.toNat := by
  have := eq_of_beq (slice_closes_to h)
  rw [this]
  simp [cl]
theorem at_slash (x : Str) (i : Nat) : StrLaws.At x (Str.ofString "/") x.length i ↔ (cl x)[i]? = some 47 := by
  have e1 : (Str.ofString "/").length = 1 := rfl
  have e2 : (Str.ofString "/").cps = #[47] := rfl
  unfold StrLaws.At Builtin.Str.subAt
  rw [e1, e2]
  have hl : x.length = x.cps.size := rfl
  constructor
  · rintro ⟨h1, h2⟩
    have h2 := eq_of_beq h2
    have hi : i < x.cps.size := by omega
    have := congrArg (fun a : Array Nat => a[0]?) h2
    simp only [Array.getElem?_extract] at this
    simp at this
    rw [Array.getElem?_toList]
    exact this.2
  · intro h
    have hi : i < x.cps.size := by
      have := (List.getElem?_eq_some_iff.mp h).1
      simpa using this
    refine ⟨by omega, ?_⟩
    rw [beq_iff_eq]
    apply Array.ext
    · simp; omega
    · intro j h1 h2
      have h2' : j < 1 := h2
      have hj : j = 0 := by omega
      subst hj
      have := (List.getElem?_eq_some_iff.mp h).2
      simpa using this
theorem rfind_cl {x : Str} {U B : List Nat} (h : cl x = U ++ B) (hB : NoSl B) (hU : U = [] ∨ ∃ A, U = A ++ [47]) : Txt.rfind x (Str.ofString "/") + 1 = (U.length : Int) := by
  have key : ∀ i, (cl x)[i]? = some 47 → i < U.length := fun i hi => by
    rcases Nat.lt_or_ge i U.length with h1 | h1
    · exact h1
    · rw [h, List.getElem?_append_right h1] at hi
      exact absurd rfl (hB 47 (List.mem_of_getElem? hi))
  have last : U ≠ [] → (cl x)[U.length - 1]? = some 47 := fun hn => by
    rcases hU with rfl | ⟨A, rfl⟩
    · exact absurd rfl hn
    · rw [h, List.append_assoc, List.length_append, List.length_singleton, Nat.add_sub_cancel, List.getElem?_append_right (Nat.le_refl _), Nat.sub_self]
      rfl
  rcases rfind_whole x (Str.ofString "/") with ⟨h0, hn⟩ | ⟨i, h0, hi, hn⟩
  · rw [h0]
    by_cases hne : U = []
    · rw [hne]; rfl
    · exact absurd ((at_slash _ _).mpr (last hne)) (hn _)
  · rw [h0]
    have h1 := key i ((at_slash _ _).mp hi)
    have hne : U ≠ [] := fun e => by rw [e] at h1; simp at h1
    have h2 : ¬ i < U.length - 1 := fun hlt => hn _ hlt ((at_slash _ _).mpr (last hne))
    omega
theorem split_stem {x : Str} {A B : List Nat} {s : Nat} (hA : Ends A) (hs : 1 ≤ s) (hB : NoSl B) (h : cl x = A ++ List.replicate s 47 ++ B) : cl (splitF x).1 = A := by
  obtain ⟨s, rfl⟩ := Nat.exists_eq_add_of_le' hs
  have hf := rfind_cl h hB (.inr ⟨A ++ List.replicate s 47, by rw [List.replicate_succ', List.append_assoc]⟩)
  have hlen : (0 : Int) ≤ Txt.rfind x (Str.ofString "/") + 1 ∧ Txt.rfind x (Str.ofString "/") + 1 ≤ (cl x).length := by
    rw [hf, h]; simp; omega
  have hh : cl (Txt.slice x none (some (Txt.rfind x (Str.ofString "/") + 1))) = A ++ List.replicate (s + 1) 47 := by
    rw [slice_cl hlen, hf, h, Int.toNat_natCast, List.take_left']
    rfl
  unfold splitF
  dsimp only
  have hne : ¬ (Txt.slice x none (some (Txt.rfind x (Str.ofString "/") + 1))).length = 0 := by
    rw [cl_len, hh]; simp
  rw [if_neg hne, if_neg ?_]
  · show cl (Txt.rstripChars _ _) = A
    rw [strip_cl, hh, rstripL_rep, hA.strip]
  · intro e
    have e := congrArg cl e
    rw [hh, cl_mul (c := 47) rfl] at e
    obtain ⟨A', c, rfl, hc⟩ := hA
    have hm : c ∈ List.replicate ((Txt.slice x none (some (Txt.rfind x (Str.ofString "/") + 1))).length : Int).toNat 47 := by rw [← e]; simp
    exact hc (List.eq_of_mem_replicate hm)
theorem split_base {x : Str} {B : List Nat} {k : Nat} (hB : NoSl B) (h : cl x = List.replicate k 47 ++ B) : cl (splitF x).1 = List.replicate k 47 := by
  have hU : List.replicate k 47 = [] ∨ ∃ A, List.replicate k 47 = A ++ [47] := by
    cases k with
    | zero => exact .inl rfl
    | succ k => exact .inr ⟨List.replicate k 47, List.replicate_succ'⟩
  have hf := rfind_cl h hB hU
  have hlen : (0 : Int) ≤ Txt.rfind x (Str.ofString "/") + 1 ∧ Txt.rfind x (Str.ofString "/") + 1 ≤ (cl x).length := by
    rw [hf, h]; simp; omega
  have hh : cl (Txt.slice x none (some (Txt.rfind x (Str.ofString "/") + 1))) = List.replicate k 47 := by
    rw [slice_cl hlen, hf, h, Int.toNat_natCast, List.take_left']
    rfl
  unfold splitF
  dsimp only
  split
  · exact hh
  · rw [if_pos ?_]
    · exact hh
    · apply cl_inj
      rw [hh, cl_mul (c := 47) rfl, cl_len, hh]
      simp
end Mine
end
section
open PySem PySem.W PyProof.Rows
set_option maxRecDepth 100000
set_option maxHeartbeats 4000000
namespace Mine
/-- a path's cuts at the ends of its parts, the longest first -/
inductive Chain : List (List Nat) → Prop
  | base (k : Nat) (p : List Nat) : NoSl p → p ≠ [] → Chain [List.replicate k 47 ++ p]
  | step {A : List Nat} {rest : List (List Nat)} (s : Nat) (B : List Nat) : Chain (A :: rest) → 1 ≤ s → NoSl B → B ≠ [] → Chain ((A ++ List.replicate s 47 ++ B) :: A :: rest)
theorem NoSl.app {A B : List Nat} (a : NoSl A) (b : NoSl B) : NoSl (A ++ B) := fun c hc => (List.mem_append.mp hc).elim (a c) (b c)
theorem Chain.ends {A : List Nat} {rest : List (List Nat)} (h : Chain (A :: rest)) : Ends A := by
  cases h with
  | base k p hp hn => exact ends_app hp hn
  | step s B _ _ hB hn => exact ends_app hB hn
theorem Chain.extend {A B : List Nat} {rest : List (List Nat)} (h : Chain (A :: rest)) (hB : NoSl B) : Chain ((A ++ B) :: rest) := by
  cases h with
  | base k p hp hn =>
    rw [List.append_assoc]
    exact .base k (p ++ B) (hp.app hB) (by simp [hn])
  | step s B' h hs hB' hn =>
    rw [List.append_assoc]
    exact .step s (B' ++ B) h hs (hB'.app hB) (by simp [hn])
theorem Chain.part {A : List Nat} {rest : List (List Nat)} (h : Chain (A :: rest)) {s c : Nat} (hs : 1 ≤ s) (hc : c ≠ 47) : Chain ((A ++ (List.replicate s 47 ++ [c])) :: A :: rest) := by
  rw [← List.append_assoc]
  exact .step s [c] h hs (by intro x hx; rw [List.mem_singleton.mp hx]; exact hc) (by simp)
theorem Chain.tail {A B : List Nat} {rest : List (List Nat)} (h : Chain (A :: B :: rest)) : Chain (B :: rest) := by
  cases h with
  | step s B' h _ _ _ => exact h
theorem Chain.drop : ∀ (d : Nat) {l : List (List Nat)}, Chain l → d < l.length → Chain (l.drop d)
  | 0, l, h, _ => h
  | d + 1, [], h, hd => by simp at hd
  | d + 1, [a], h, hd => by simp at hd
  | d + 1, a :: b :: r, h, hd => Chain.drop d h.tail (by simpa using hd)
theorem path_chain {P : Str} {l : List (List Nat)} (h : Chain l) : ∀ i, cl (pathAt P i) = l.headD [] → (∀ j (hj : j < l.length), cl (pathAt P (i + j)) = l[j]) ∧ ∃ k, cl (pathAt P (i + l.length)) = List.replicate k 47 := by
  induction h with
  | base k p hp hn =>
    intro i hi
    refine ⟨fun j hj => ?_, k, ?_⟩
    · obtain rfl : j = 0 := by simpa using hj
      exact hi
    · exact split_base hp hi
  | @step A rest s B h hs hB hn ih =>
    intro i hi
    have h1 : cl (pathAt P (i + 1)) = A := split_stem h.ends hs hB hi
    obtain ⟨h2, k, h3⟩ := ih (i + 1) h1
    refine ⟨fun j hj => ?_, k, ?_⟩
    · cases j with
      | zero => exact hi
      | succ j =>
        have := h2 j (by simpa using hj)
        rw [show i + (j + 1) = i + 1 + j by omega]
        simpa using this
    · rw [show i + ((A ++ List.replicate s 47 ++ B) :: A :: rest).length = i + 1 + (A :: rest).length by simp only [List.length_cons]; omega]
      exact h3
theorem anc_chain {P : Str} {A : List Nat} {rest : List (List Nat)} (h : Chain (A :: rest)) (hP : rstripL (cl P) = A) : Yields P (A :: rest).length ∧ (ancL P (A :: rest).length).map cl = A :: rest := by
  have h0 : cl (pathAt P 0) = A := by show cl (Txt.rstripChars _ _) = _; rw [strip_cl, hP]
  obtain ⟨h1, k, h2⟩ := path_chain h 0 h0
  have allEnds : ∀ j (hj : j < (A :: rest).length), Ends (A :: rest)[j] := fun j hj => by
    have hd := h.drop j hj
    rw [List.drop_eq_getElem_cons hj] at hd
    exact hd.ends
  refine ⟨⟨fun i hi => ?_, ?_⟩, ?_⟩
  · have e := h1 i hi
    rw [Nat.zero_add] at e
    have hE := allEnds i hi
    rw [bne_iff_ne]
    intro hz
    have hz' : (cl (Txt.rstripChars (pathAt P i) (Str.ofString "/"))).length = 0 := by rw [← cl_len]; omega
    rw [strip_cl, e, hE.strip] at hz'
    exact hE.ne (List.length_eq_zero_iff.mp hz')
  · rw [Nat.zero_add] at h2
    rw [bne_iff_ne]
    intro hz
    apply hz
    have : (cl (Txt.rstripChars (pathAt P (A :: rest).length) (Str.ofString "/"))).length = 0 := by rw [strip_cl, h2, rstripL_all]; rfl
    rw [cl_len, this]; rfl
  · apply List.ext_getElem
    · simp [ancL]
    · intro j hj1 hj2
      have e := h1 j hj2
      rw [Nat.zero_add] at e
      simp [ancL, e]
end Mine
end
section
open PySem PySem.W PyProof.Rows
set_option maxRecDepth 100000
set_option maxHeartbeats 4000000
namespace Mine
/-- a text prepared, by its signs -/
noncomputable def prepL (l : List Nat) : List Nat := (l.filter fun c : Nat => !(b1 (c : Int))).flatMap fun c => cl (mapb3 c)
theorem glue_fold : ∀ (ws : List Str) (a : Array Nat), (ws.foldl (fun acc p => acc ++ (Str.ofString "").cps ++ p.cps) a).toList = a.toList ++ ws.flatMap cl
  | [], a => by simp
  | x :: r, a => by
    rw [List.foldl_cons, glue_fold r]
    have e : (Str.ofString "").cps = #[] := rfl
    rw [e]
    simp [cl, List.append_assoc]
theorem join_cl (ws : List Str) : cl (Txt.join (Str.ofString "") ws) = ws.flatMap cl := by
  show (List.foldl (fun acc p => acc ++ (Str.ofString "").cps ++ p.cps) (ws.headD Str.empty).cps (ws.drop 1)).toList = _
  rw [glue_fold]
  cases ws with
  | nil => rfl
  | cons x r => rfl
theorem prep_cl (x : Str) : cl (prep x) = prepL (cl x) := by
  unfold prep prepWords prepL
  rw [join_cl, List.flatMap_map]
theorem prepL_app (a b : List Nat) : prepL (a ++ b) = prepL a ++ prepL b := by
  unfold prepL
  rw [List.filter_append, List.flatMap_append]
theorem prepL_nil : prepL [] = [] := rfl
noncomputable def eqN (k : Int) (c : Nat) : Bool := @Int.rec (fun _ => Bool) (fun m => Nat.beq m c) (fun _ => false) k
theorem eqN_eq (k : Int) (c : Nat) : eqN k c = (k == (c : Int)) := (show eqN k c = iB k (c : Int) from rfl).trans (iB_eq k c)
noncomputable def findN (c : Nat) (l : List DictEntry) : Option Str := @List.rec DictEntry (fun _ => Option Str) none (fun e _ ih => @Bool.rec (fun _ => Option Str) ih (some (sOf e)) (eqN (kOf e) c)) l
theorem findN_eq (c : Nat) : ∀ l : List DictEntry, findN c l = (l.find? fun e => kOf e == (c : Int)).map sOf
  | [] => rfl
  | e :: l => by
    rw [List.find?_cons]
    show @Bool.rec (fun _ => Option Str) (findN c l) (some (sOf e)) (eqN (kOf e) c) = _
    rw [eqN_eq]
    cases kOf e == (c : Int) with
    | true => rfl
    | false => exact findN_eq c l
theorem findN_app (c : Nat) : ∀ a b : List DictEntry, (∀ e ∈ a, kOf e < (c : Int)) → findN c (a ++ b) = findN c b
  | [], b, _ => rfl
  | e :: a, b, h => by
    show @Bool.rec (fun _ => Option Str) (findN c (a ++ b)) (some (sOf e)) (eqN (kOf e) c) = _
    rw [eqN_eq, show (kOf e == (c : Int)) = false from by have := h e List.mem_cons_self; simp; omega]
    exact findN_app c a b fun x hx => h x (List.mem_cons_of_mem _ hx)
/-- a sign prepared, its spelling sought among the entries from n on -/
noncomputable def prepX (n c : Nat) : List Nat := @Bool.rec (fun _ => List Nat) (cl ((findN c (bigEs.drop n)).getD (Txt.lower (ch c)))) [] (b1 (c : Int))
theorem prep_one (n c : Nat) (h : ∀ e ∈ bigEs.take n, kOf e < (c : Int)) : prepL [c] = prepX n c := by
  have e : b3f (c : Int) = findN c (bigEs.drop n) := by
    unfold b3f
    rw [← findN_eq]
    have := findN_app c (bigEs.take n) (bigEs.drop n) h
    rwa [List.take_append_drop] at this
  unfold prepL prepX
  rw [← e]
  show List.flatMap _ (List.filter _ [c]) = _
  rw [List.filter_cons]
  cases b1 (c : Int) with
  | true => rfl
  | false => exact List.append_nil _
theorem prep_one0 (c : Nat) : prepL [c] = prepX 0 c := prep_one 0 c (by simp)
theorem early : (bigEs.take 202).all (fun e => Nat.blt (kOf e).toNat 119808) = true := by decide +kernel
theorem early_lt {c : Nat} (h : 119808 ≤ c) : ∀ e ∈ bigEs.take 202, kOf e < (c : Int) := fun e he => by
  have := List.all_eq_true.mp early e he
  have : (kOf e).toNat < 119808 := Nat.lt_of_succ_le (Nat.le_of_ble_eq_true this)
  omega
theorem prep_slash : prepL [47] = [47] := (prep_one0 47).trans (by decide +kernel)
theorem prep_low_ : ∀ i, i < 26 → prepX 0 (97 + i) = [97 + i] := by decide +kernel
theorem prep_low (i : Nat) (h : i < 26) : prepL [97 + i] = [97 + i] := (prep_one0 _).trans (prep_low_ i h)
theorem prep_up_ : ∀ i, i < 26 → prepX 0 (65 + i) = [97 + i] := by decide +kernel
theorem prep_up (i : Nat) (h : i < 26) : prepL [65 + i] = [97 + i] := (prep_one0 _).trans (prep_up_ i h)
theorem prep_face_ : ∀ f, f < 10 → ∀ i, i < 26 → prepX 202 (119808 + 52 * ([0, 1, 2, 4, 7, 8, 9, 10, 11, 12] : List Nat).getD f 0 + i) = [97 + i] := by decide +kernel
theorem prep_face (f : Nat) (hf : f < 10) (i : Nat) (hi : i < 26) : prepL [119808 + 52 * ([0, 1, 2, 4, 7, 8, 9, 10, 11, 12] : List Nat).getD f 0 + i] = [97 + i] :=
  (prep_one 202 _ (early_lt (by omega))).trans (prep_face_ f hf i hi)
theorem prep_hid : ∀ k : Nat, k < 27 → prepL [(hiddenF (k : Int)).toNat] = [] := by decide +kernel
theorem prep_word : ∀ k, k < 12 → prepL (cl (Txt.item (wordsL.getD k Str.empty) 0)) = cl (Txt.slice (wordsL.getD k Str.empty) (some 1) none) := by decide +kernel
theorem prep_slashes : ∀ n, prepL (List.replicate n 47) = List.replicate n 47
  | 0 => rfl
  | n + 1 => by
    rw [List.replicate_succ, show (47 :: List.replicate n 47) = [47] ++ List.replicate n 47 from rfl, prepL_app, prep_slash, prep_slashes n]
end Mine
end
section
open PySem PySem.W PyProof.Rows
set_option maxRecDepth 100000
set_option maxHeartbeats 4000000
namespace Mine
noncomputable def Low (l : List Nat) : Prop := ∀ c ∈ l, 97 ≤ c ∧ c ≤ 122
theorem fmod_nat (q : Int) {k : Nat} (hk : 0 < k) : ∃ i : Nat, q.fmod (k : Int) = (i : Int) ∧ i < k := by
  have h := fmod_rng q (k := (k : Int)) (by omega)
  exact ⟨(q.fmod (k : Int)).toNat, by omega, by omega⟩
theorem hid_no : ∀ k : Nat, k < 27 → (hiddenF (k : Int)).toNat ≠ 47 := by decide +kernel
theorem word_no : ∀ k, k < 12 → (cl (Txt.item (wordsL.getD k Str.empty) 0)).all (fun c => c != 47) = true ∧ (cl (Txt.slice (wordsL.getD k Str.empty) (some 1) none)).all (fun c => decide (97 ≤ c ∧ c ≤ 122)) = true := by decide +kernel
theorem NoSl.one {c : Nat} (h : c ≠ 47) : NoSl [c] := fun x hx => by rw [List.mem_singleton.mp hx]; exact h
theorem Low.one {i : Nat} (h : i < 26) : Low [97 + i] := fun x hx => by rw [List.mem_singleton.mp hx]; omega
theorem Low.app {a b : List Nat} (h : Low a) (k : Low b) : Low (a ++ b) := fun c hc => (List.mem_append.mp hc).elim (h c) (k c)
theorem Low.no {l : List Nat} (h : Low l) : NoSl l := fun c hc e => by have := h c hc; omega
theorem letter_cl (n : Int) {i : Nat} (h : (n.fdiv 6).fmod 26 = (i : Int)) : cl (letterOf n) = [97 + i] := by
  unfold letterOf
  rw [h]
  show [((97 : Int) + (i : Int)).toNat] = _
  congr 1
theorem sign_facts (n : Int) (h6 : n.fmod 6 ≠ 0) : prepL (cl (signF n).1) = cl (signF n).2 ∧ NoSl (cl (signF n).1) ∧ Low (cl (signF n).2) := by
  obtain ⟨i, hi, hi26⟩ := fmod_nat (n.fdiv 6) (k := 26) (by decide)
  have hi : (n.fdiv 6).fmod 26 = (i : Int) := hi
  have hlc := letter_cl n hi
  unfold signF
  split
  · obtain ⟨k, hk, hk27⟩ := fmod_nat (n.fdiv 6) (k := 27) (by decide)
    have hk : (n.fdiv 6).fmod 27 = (k : Int) := hk
    rw [hk]
    exact ⟨prep_hid k hk27, NoSl.one (hid_no k hk27), fun c hc => by cases hc⟩
  split
  · rw [hlc]
    exact ⟨prep_low i hi26, (Low.one hi26).no, Low.one hi26⟩
  split
  · rw [hlc, hi]
    have e : cl (⟨#[((65 : Int) + (i : Int)).toNat]⟩ : Str) = [65 + i] := rfl
    show prepL (cl (⟨#[((65 : Int) + (i : Int)).toNat]⟩ : Str)) = _ ∧ NoSl (cl (⟨#[((65 : Int) + (i : Int)).toNat]⟩ : Str)) ∧ _
    rw [e]
    exact ⟨prep_up i hi26, NoSl.one (by omega), Low.one hi26⟩
  split
  · obtain ⟨f, hf, hf10⟩ := fmod_nat ((n.fdiv 6).fdiv 26) (k := 10) (by decide)
    have hf : ((n.fdiv 6).fdiv 26).fmod 10 = (f : Int) := hf
    rw [hlc, hi, hf]
    have e0 : ∀ f : Nat, f < 10 → ([0, 1, 2, 4, 7, 8, 9, 10, 11, 12] : List Int).getD ((f : Int)).toNat 0 = (([0, 1, 2, 4, 7, 8, 9, 10, 11, 12] : List Nat).getD f 0 : Nat) := by decide
    have e1 := e0 f hf10
    have e : cl (⟨#[((119808 : Int) + 52 * ([0, 1, 2, 4, 7, 8, 9, 10, 11, 12] : List Int).getD ((f : Int)).toNat 0 + (i : Int)).toNat]⟩ : Str) = [119808 + 52 * ([0, 1, 2, 4, 7, 8, 9, 10, 11, 12] : List Nat).getD f 0 + i] := by
      rw [e1]
      show [Int.toNat _] = _
      congr 1
    show prepL (cl (⟨#[((119808 : Int) + 52 * ([0, 1, 2, 4, 7, 8, 9, 10, 11, 12] : List Int).getD ((f : Int)).toNat 0 + (i : Int)).toNat]⟩ : Str)) = _ ∧ NoSl (cl (⟨#[((119808 : Int) + 52 * ([0, 1, 2, 4, 7, 8, 9, 10, 11, 12] : List Int).getD ((f : Int)).toNat 0 + (i : Int)).toNat]⟩ : Str)) ∧ _
    rw [e]
    exact ⟨prep_face f hf10 i hi26, NoSl.one (by omega), Low.one hi26⟩
  · obtain ⟨k, hk, hk12⟩ := fmod_nat (n.fdiv 6) (k := 12) (by decide)
    have hk : (n.fdiv 6).fmod 12 = (k : Int) := hk
    unfold wordAt
    rw [hk, Int.toNat_natCast]
    have hw := word_no k hk12
    refine ⟨prep_word k hk12, fun c hc => ?_, fun c hc => ?_⟩
    · have := List.all_eq_true.mp hw.1 c hc
      simpa using this
    · have := List.all_eq_true.mp hw.2 c hc
      simpa using this
end Mine
end
section
open PySem PySem.W PyProof.Rows
set_option maxRecDepth 100000
set_option maxHeartbeats 4000000
namespace Mine
/-- what holds between the turns of the law's main loop: the closed cuts of plain and of spelled -/
structure Inv (q : List Nat × List Nat × List Int) (st st' : List (List Nat)) : Prop where
  pl : Chain (q.2.1 :: st)
  sp : Chain (q.1 :: st')
  map : st'.map prepL = st
  prep : prepL q.1 = q.2.1
  ends : q.2.2 = (st.map fun a => (a.length : Int)).reverse
  pre : ∀ a ∈ st, ∃ r, q.2.1 = a ++ r
  low : ∀ c ∈ q.2.1, c = 47 ∨ (97 ≤ c ∧ c ≤ 122)
theorem low_rep {s i : Nat} (hi : i < 26) : ∀ c ∈ List.replicate s 47 ++ [97 + i], c = 47 ∨ (97 ≤ c ∧ c ≤ 122) := fun c hc => by
  rcases List.mem_append.mp hc with h | h
  · exact .inl (List.eq_of_mem_replicate h)
  · rw [List.mem_singleton.mp h]; exact .inr (by omega)
theorem inv_init (ns : List Int) : Inv (initL ns) [] [] := by
  unfold initL
  refine ⟨.base _ [112] (NoSl.one (by decide)) (by simp), .base _ [80] (NoSl.one (by decide)) (by simp), rfl, ?_, rfl, fun a ha => (by cases ha), low_rep (i := 15) (by decide)⟩
  show prepL (List.replicate _ 47 ++ [80]) = _
  rw [prepL_app, prep_slashes, prep_up 15 (by decide)]
theorem inv_step {q : List Nat × List Nat × List Int} {st st' : List (List Nat)} (h : Inv q st st') (n : Int) : ∃ st₂ st₂', Inv (stepL q n) st₂ st₂' := by
  obtain ⟨sp, pl, zs⟩ := q
  obtain ⟨h1, h2, h3, h4, h5, h6, h7⟩ := h
  dsimp only at h1 h2 h3 h4 h5 h6 h7
  unfold stepL
  split
  · obtain ⟨i, hi, hi26⟩ := fmod_nat (n.fdiv 18) (k := 26) (by decide)
    have hi : (n.fdiv 18).fmod 26 = (i : Int) := hi
    obtain ⟨j, hj, hj3⟩ := fmod_nat (n.fdiv 6) (k := 3) (by decide)
    have hj : (n.fdiv 6).fmod 3 = (j : Int) := hj
    have e1 : ((65 : Int) + (i : Int)).toNat = 65 + i := by omega
    have e2 : ((97 : Int) + (i : Int)).toNat = 97 + i := by omega
    have e3 : ((1 : Int) + (j : Int)).toNat = 1 + j := by omega
    rw [hi, hj, e1, e2, e3]
    dsimp only
    refine ⟨pl :: st, sp :: st', h1.part (by omega) (by omega), h2.part (by omega) (by omega), by rw [List.map_cons, h3, h4], ?_, ?_, ?_, ?_⟩
    · show prepL _ = _
      rw [prepL_app, h4, prepL_app, prep_slashes, prep_up i hi26]
    · show zs ++ [_] = _
      rw [h5, List.map_cons, List.reverse_cons]
    · intro a ha
      rcases List.mem_cons.mp ha with rfl | ha
      · exact ⟨_, rfl⟩
      · obtain ⟨r, hr⟩ := h6 a ha
        refine ⟨r ++ (List.replicate (1 + j) 47 ++ [97 + i]), ?_⟩
        show pl ++ (List.replicate (1 + j) 47 ++ [97 + i]) = _
        rw [← List.append_assoc a, ← hr]
    · intro c hc
      rcases List.mem_append.mp hc with h | h
      · exact h7 c h
      · exact low_rep hi26 c h
  · rename_i hne
    obtain ⟨s1, s2, s3⟩ := sign_facts n hne
    refine ⟨st, st', h1.extend s3.no, h2.extend s2, h3, ?_, h5, ?_, ?_⟩
    · show prepL _ = _
      rw [prepL_app, h4, s1]
    · intro a ha
      obtain ⟨r, hr⟩ := h6 a ha
      exact ⟨r ++ cl (signF n).2, by show pl ++ _ = _; rw [← List.append_assoc a, ← hr]⟩
    · intro c hc
      rcases List.mem_append.mp hc with h | h
      · exact h7 c h
      · exact .inr (s3 c h)
theorem inv_fold : ∀ (l : List Int) (q : List Nat × List Nat × List Int) (st st' : List (List Nat)), Inv q st st' → ∃ st₂ st₂', Inv (l.foldl stepL q) st₂ st₂'
  | [], q, st, st', h => ⟨st, st', h⟩
  | n :: r, q, st, st', h => by
    obtain ⟨a, b, h2⟩ := inv_step h n
    exact inv_fold r _ a b h2
theorem inv_all (ns : List Int) : ∃ st st', Inv (ns.foldl stepL (initL ns)) st st' := inv_fold ns _ _ _ (inv_init ns)
/-- a number's worth in great -/
theorem prep_great (j c : Nat) (hc : c = 47 ∨ (97 ≤ c ∧ c ≤ 122)) : prepL (greatAt j c) = [c] := by
  unfold greatAt
  split
  · rename_i h; rw [h]; exact prep_slash
  · rename_i h
    obtain ⟨i, hi⟩ : ∃ i, c = 97 + i := ⟨c - 97, by omega⟩
    obtain ⟨k, hk, hk27⟩ := fmod_nat (j : Int) (k := 27) (by decide)
    have hk : ((j : Int)).fmod 27 = (k : Int) := hk
    subst hi
    have hi26 : i < 26 := by omega
    have e : 119808 + (97 + i) - 97 = 119808 + 52 * ([0, 1, 2, 4, 7, 8, 9, 10, 11, 12] : List Nat).getD 0 0 + i := by
      show _ = 119808 + 52 * 0 + i
      omega
    rw [hk, e, show ∀ a b : Nat, [a, b] = [a] ++ [b] from fun _ _ => rfl, prepL_app, prep_face 0 (by decide) i hi26, prep_hid k hk27, List.append_nil]
theorem prep_greatOf : ∀ (l : List Nat) (j : Nat), (∀ c ∈ l, c = 47 ∨ (97 ≤ c ∧ c ≤ 122)) → prepL (greatOf l j) = l
  | [], _, _ => rfl
  | c :: r, j, h => by
    rw [greatOf, prepL_app, prep_great j c (h c (.head _)), prep_greatOf r (j + 1) fun x hx => h x (.tail _ hx)]
    rfl
end Mine
end
section
open PySem PySem.W PyProof.Rows
set_option maxRecDepth 100000
set_option maxHeartbeats 4000000
namespace Mine
theorem map_cl_inj : ∀ {a b : List Str}, a.map cl = b.map cl → a = b
  | [], [], _ => rfl
  | [], b :: bs, h => by simp at h
  | a :: as, [], h => by simp at h
  | a :: as, b :: bs, h => by
    simp only [List.map_cons, List.cons.injEq] at h
    rw [cl_inj h.1, map_cl_inj h.2]
/-- the ends, as the loop and the statement behind it leave them -/
noncomputable def endsOf (zs : List Int) (y : Str) : List Int := zs ++ [(y.length : Int)]
noncomputable def cutAt (y : Str) (z : Int) : Str := Txt.slice y none (some z)
theorem ends_is {q : List Nat × List Nat × List Int} {st st' : List (List Nat)} {y : Str} (h : Inv q st st') (hy : q.2.1 = cl y) : endsOf q.2.2 y = ((cl y :: st).map fun a => (a.length : Int)).reverse := by
  unfold endsOf
  rw [h.ends, List.map_cons, List.reverse_cons, cl_len]
theorem cut_cl {y : Str} {a r : List Nat} (h : cl y = a ++ r) : cl (cutAt y (a.length : Int)) = a := by
  unfold cutAt
  rw [slice_cl ⟨by omega, by rw [h]; simp; omega⟩, h, Int.toNat_natCast, List.take_left']
  rfl
theorem cuts_cl {y : Str} : ∀ (l : List (List Nat)), (∀ a ∈ l, ∃ r, cl y = a ++ r) → ((l.map fun a => (a.length : Int)).map (cutAt y)).map cl = l
  | [], _ => rfl
  | a :: l, h => by
    obtain ⟨r, hr⟩ := h a (.head _)
    rw [List.map_cons, List.map_cons, List.map_cons, cut_cl hr, cuts_cl l fun b hb => h b (.tail _ hb)]
section
variable {ns : List Int} {x y X g : Str} {zs : List Int} {t : Nat} {kp : Int}
theorem plain_told (hf : ns.foldl stepL (initL ns) = (cl x, cl y, zs)) (hX : cl X = cl x ++ List.replicate t 47) :
    Yields (prep X) (endsOf zs y).length ∧ Yields X (endsOf zs y).length ∧ (endsOf zs y).reverse.map (cutAt y) = ancL (prep X) (endsOf zs y).length ∧ (endsOf zs y).reverse.map (cutAt y) = (ancL X (endsOf zs y).length).map prep := by
  obtain ⟨st, st', h⟩ := inv_all ns
  rw [hf] at h
  have he := ends_is (y := y) h rfl
  have hlen : (endsOf zs y).length = (cl y :: st).length := by
    have := congrArg List.length he
    simpa using this
  have hlen' : (cl x :: st').length = (cl y :: st).length := by
    have := congrArg List.length h.map
    simp at this ⊢
    exact this
  have hpre : ∀ a ∈ cl y :: st, ∃ r, cl y = a ++ r := fun a ha => by
    rcases List.mem_cons.mp ha with rfl | ha
    · exact ⟨[], by simp⟩
    · exact h.pre a ha
  have htold : ((endsOf zs y).reverse.map (cutAt y)).map cl = cl y :: st := by
    rw [show endsOf zs y = _ from he, List.reverse_reverse]
    exact cuts_cl _ hpre
  have hp : cl (prep X) = cl y ++ List.replicate t 47 := by
    rw [prep_cl, hX, prepL_app, prep_slashes]
    congr 1
    exact h.prep
  have a1 := anc_chain (P := prep X) h.pl (by show rstripL _ = cl y; rw [hp, rstripL_rep]; exact h.pl.ends.strip)
  have a2 := anc_chain (P := X) h.sp (by show rstripL _ = cl x; rw [hX, rstripL_rep]; exact h.sp.ends.strip)
  rw [hlen]
  have a2' : Yields X (cl y :: st).length ∧ (ancL X (cl y :: st).length).map cl = cl x :: st' := by rw [← hlen']; exact a2
  refine ⟨a1.1, a2'.1, map_cl_inj (htold.trans a1.2.symm), map_cl_inj (htold.trans ?_)⟩
  have e : ((ancL X (cl y :: st).length).map prep).map cl = ((ancL X (cl y :: st).length).map cl).map prepL := by
    rw [List.map_map, List.map_map]
    exact List.map_congr_left fun z _ => prep_cl z
  rw [e, a2'.2, List.map_cons, h.map]
  congr 1
  exact h.prep.symm
theorem plain_low (hf : ns.foldl stepL (initL ns) = (cl x, cl y, zs)) : ∀ c ∈ cl y, c = 47 ∨ (97 ≤ c ∧ c ≤ 122) := by
  obtain ⟨st, st', h⟩ := inv_all ns
  rw [hf] at h
  exact h.low
theorem plain_cuts (hf : ns.foldl stepL (initL ns) = (cl x, cl y, zs)) (hk : 0 ≤ kp ∧ kp < ((endsOf zs y).length : Int)) {o : Str} (ho : o = cutAt y ((endsOf zs y).getD kp.toNat 0) ++ Str.ofString "//y") (hg : cl g = greatOf (cl o) 0) :
    (∀ c ∈ cl o, c = 47 ∨ (97 ≤ c ∧ c ≤ 122)) ∧ ∃ n2, n2 ≤ (endsOf zs y).length + 1 ∧ Yields (prep g) n2 ∧ o :: ((endsOf zs y).take (kp + 1).toNat).reverse.map (cutAt y) = ancL (prep g) n2 ∧ cl (prep g) = cl o := by
  obtain ⟨st, st', h⟩ := inv_all ns
  rw [hf] at h
  have he := ends_is (y := y) h rfl
  have hpre : ∀ a ∈ cl y :: st, ∃ r, cl y = a ++ r := fun a ha => by
    rcases List.mem_cons.mp ha with rfl | ha
    · exact ⟨[], by simp⟩
    · exact h.pre a ha
  have hE : endsOf zs y = ((cl y :: st).map fun a => (a.length : Int)).reverse := he
  have hlen : (endsOf zs y).length = (cl y :: st).length := by rw [hE]; simp
  have hchain : Chain (cl y :: st) := h.pl
  have hlow : ∀ c ∈ cl y, c = 47 ∨ (97 ≤ c ∧ c ≤ 122) := h.low
  generalize cl y :: st = l at hpre hE hlen hchain
  obtain ⟨k, rfl⟩ : ∃ k : Nat, kp = (k : Int) := ⟨kp.toNat, by omega⟩
  have hkl : k < l.length := by omega
  rw [Int.toNat_natCast] at ho
  have ek : ((k : Int) + 1).toNat = k + 1 := by omega
  rw [ek]
  have hd : l.length - (k + 1) < l.length := by omega
  generalize hB : l[l.length - (k + 1)] = B
  have hBm : B ∈ l := hB ▸ List.getElem_mem hd
  obtain ⟨r, hr⟩ := hpre B hBm
  have hget : (endsOf zs y).getD k 0 = (B.length : Int) := by
    rw [hE, List.getD_eq_getElem?_getD, List.getElem?_reverse (by simpa using hkl), List.length_map, List.getElem?_map, show l.length - 1 - k = l.length - (k + 1) by omega, List.getElem?_eq_getElem hd, hB]
    rfl
  have hco : cl o = B ++ List.replicate 2 47 ++ [121] := by
    rw [ho, cl_append, hget, cut_cl hr]
    rw [List.append_assoc]
    rfl
  have hlowo : ∀ c ∈ cl o, c = 47 ∨ (97 ≤ c ∧ c ≤ 122) := fun c hc => by
    rw [hco] at hc
    rcases List.mem_append.mp hc with hc | hc
    · rcases List.mem_append.mp hc with hc | hc
      · exact hlow c (by rw [hr]; exact List.mem_append_left _ hc)
      · exact .inl (List.eq_of_mem_replicate hc)
    · rw [List.mem_singleton.mp hc]; exact .inr (by decide)
  have hp : cl (prep g) = cl o := by rw [prep_cl, hg, prep_greatOf _ _ hlowo]
  have hdrop : l.drop (l.length - (k + 1)) = B :: l.drop (l.length - (k + 1) + 1) := by rw [List.drop_eq_getElem_cons hd, hB]
  have hc1 := hchain.drop _ hd
  rw [hdrop] at hc1
  have hc2 : Chain (cl o :: B :: l.drop (l.length - (k + 1) + 1)) := by
    rw [hco]
    exact .step 2 [121] hc1 (by decide) (NoSl.one (by decide)) (by simp)
  have a := anc_chain (P := prep g) hc2 (by rw [hp]; exact hc2.ends.strip)
  refine ⟨hlowo, _, ?_, a.1, map_cl_inj (Eq.trans ?_ a.2.symm), hp⟩
  · simp only [List.length_cons, List.length_drop]; omega
  · rw [List.map_cons]
    congr 1
    have e : ((endsOf zs y).take (k + 1)).reverse = (l.drop (l.length - (k + 1))).map fun a => (a.length : Int) := by
      rw [hE, List.take_reverse, List.reverse_reverse, List.length_map, List.map_drop]
    rw [e, ← hdrop]
    exact cuts_cl _ fun a ha => hpre a (List.mem_of_mem_drop ha)
end
end Mine
end
section
open PySem PySem.W PyProof.Rows PySem.SeqAt PySem.Calls
set_option maxRecDepth 100000
set_option maxHeartbeats 4000000
namespace Mine
noncomputable abbrev lB : List Stmt := lawRec.body
theorem lB0 : lB = lB.headD nil0 :: lB.tail := by unfold lB lawRec lawRecOf; rfl
theorem lB1 : lB.tail = lB.tail.headD nil0 :: lB.tail.tail := by unfold lB lawRec lawRecOf; rfl
theorem lB2 : lB.tail.tail = lB.tail.tail.headD nil0 :: lB.tail.tail.tail := by unfold lB lawRec lawRecOf; rfl
theorem lB3 : lB.tail.tail.tail = lB.tail.tail.tail.headD nil0 :: lB.tail.tail.tail.tail := by unfold lB lawRec lawRecOf; rfl
theorem lB4 : lB.tail.tail.tail.tail = lB.tail.tail.tail.tail.headD nil0 :: lB.tail.tail.tail.tail.tail := by unfold lB lawRec lawRecOf; rfl
theorem lB5 : lB.tail.tail.tail.tail.tail = lB.tail.tail.tail.tail.tail.headD nil0 :: lB.tail.tail.tail.tail.tail.tail := by unfold lB lawRec lawRecOf; rfl
theorem lB6 : lB.tail.tail.tail.tail.tail.tail = lB.tail.tail.tail.tail.tail.tail.headD nil0 :: lB.tail.tail.tail.tail.tail.tail.tail := by unfold lB lawRec lawRecOf; rfl
theorem lB7 : lB.tail.tail.tail.tail.tail.tail.tail = lB.tail.tail.tail.tail.tail.tail.tail.headD nil0 :: lB.tail.tail.tail.tail.tail.tail.tail.tail := by unfold lB lawRec lawRecOf; rfl
theorem lB8 : lB.tail.tail.tail.tail.tail.tail.tail.tail = lB.tail.tail.tail.tail.tail.tail.tail.tail.headD nil0 :: lB.tail.tail.tail.tail.tail.tail.tail.tail.tail := by unfold lB lawRec lawRecOf; rfl
theorem lB9 : lB.tail.tail.tail.tail.tail.tail.tail.tail.tail = lB.tail.tail.tail.tail.tail.tail.tail.tail.tail.headD nil0 :: lB.tail.tail.tail.tail.tail.tail.tail.tail.tail.tail := by unfold lB lawRec lawRecOf; rfl
theorem lB10 : lB.tail.tail.tail.tail.tail.tail.tail.tail.tail.tail = lB.tail.tail.tail.tail.tail.tail.tail.tail.tail.tail.headD nil0 :: lB.tail.tail.tail.tail.tail.tail.tail.tail.tail.tail.tail := by unfold lB lawRec lawRecOf; rfl
theorem lB11 : lB.tail.tail.tail.tail.tail.tail.tail.tail.tail.tail.tail = lB.tail.tail.tail.tail.tail.tail.tail.tail.tail.tail.tail.headD nil0 :: lB.tail.tail.tail.tail.tail.tail.tail.tail.tail.tail.tail.tail := by unfold lB lawRec lawRecOf; rfl
theorem lB12 : lB.tail.tail.tail.tail.tail.tail.tail.tail.tail.tail.tail.tail = lB.tail.tail.tail.tail.tail.tail.tail.tail.tail.tail.tail.tail.headD nil0 :: lB.tail.tail.tail.tail.tail.tail.tail.tail.tail.tail.tail.tail.tail := by unfold lB lawRec lawRecOf; rfl
theorem lB13 : lB.tail.tail.tail.tail.tail.tail.tail.tail.tail.tail.tail.tail.tail = lB.tail.tail.tail.tail.tail.tail.tail.tail.tail.tail.tail.tail.tail.headD nil0 :: lB.tail.tail.tail.tail.tail.tail.tail.tail.tail.tail.tail.tail.tail.tail := by unfold lB lawRec lawRecOf; rfl
theorem lB14 : lB.tail.tail.tail.tail.tail.tail.tail.tail.tail.tail.tail.tail.tail.tail = lB.tail.tail.tail.tail.tail.tail.tail.tail.tail.tail.tail.tail.tail.tail.headD nil0 :: lB.tail.tail.tail.tail.tail.tail.tail.tail.tail.tail.tail.tail.tail.tail.tail := by unfold lB lawRec lawRecOf; rfl
theorem lB15 : lB.tail.tail.tail.tail.tail.tail.tail.tail.tail.tail.tail.tail.tail.tail.tail = lB.tail.tail.tail.tail.tail.tail.tail.tail.tail.tail.tail.tail.tail.tail.tail.headD nil0 :: lB.tail.tail.tail.tail.tail.tail.tail.tail.tail.tail.tail.tail.tail.tail.tail.tail := by unfold lB lawRec lawRecOf; rfl
theorem lB16 : lB.tail.tail.tail.tail.tail.tail.tail.tail.tail.tail.tail.tail.tail.tail.tail.tail = lB.tail.tail.tail.tail.tail.tail.tail.tail.tail.tail.tail.tail.tail.tail.tail.tail.headD nil0 :: lB.tail.tail.tail.tail.tail.tail.tail.tail.tail.tail.tail.tail.tail.tail.tail.tail.tail := by unfold lB lawRec lawRecOf; rfl
theorem lB17 : lB.tail.tail.tail.tail.tail.tail.tail.tail.tail.tail.tail.tail.tail.tail.tail.tail.tail = lB.tail.tail.tail.tail.tail.tail.tail.tail.tail.tail.tail.tail.tail.tail.tail.tail.tail.headD nil0 :: [] := by unfold lB lawRec lawRecOf; rfl
theorem nums_len (xs : List Int) : (numsOf xs).length ≤ 16 := by unfold numsOf; simp; omega
theorem nums_rng (xs : List Int) : ∀ n ∈ numsOf xs, 0 ≤ n ∧ n < 1000000 := by
  intro n hn
  obtain ⟨k, _, rfl⟩ := List.mem_map.mp hn
  exact fmod_rng k (by decide)
theorem sum_rng : ∀ (l : List Int), (∀ n ∈ l, 0 ≤ n ∧ n < 1000000) → 0 ≤ l.sum ∧ l.sum ≤ 1000000 * (l.length : Int)
  | [], _ => by simp
  | a :: r, h => by
    have h1 := h a (.head _)
    have h2 := sum_rng r fun n hn => h n (.tail _ hn)
    simp only [List.sum_cons, List.length_cons]
    omega
theorem ne_of_obj {h₀ h : Heap} {L a b : Addr} {o p : Obj} {news : List (Addr × Obj)} (N : News h₀ L h news) (ha : (a, o) ∈ news) (hb : (b, p) ∈ news) (hne : o ≠ p) : @Ne Nat a b := by
  rintro rfl
  exact hne (Option.some.inj ((N _ ha).1.symm.trans (N _ hb).1))
section
variable {w : World} {h₀ : Heap} {fa : Addr} {cd : Value} {m : Str → Option Value} {s : Shared} {Q : Flow → Shared → Prop} {E : Value → Shared → Prop} {loose : List Str} {mean : ExcName → Option Value} {mg mb : Str → Option Value} {oc op : Obj} {cv pv : Option Value}
theorem law_body {a : Addr} {vs : List Value} {xs : List Int} (K0 : Below callerA h₀ [] h₀) (X : (hd.heap_39 w.params).In h₀) (S1 : Extra w h₀) (T : Top qv loose mean mg mb h₀)
    (hL : h₀.IsList a vs.toArray) (hI : IntsAre vs xs) (hlen : ¬ ((63 : Nat) : Int) < (xs.length : Int))
    (F : Fr h₀ h₀.objs.size s.heap m) (hm : m (Str.ofString "script") = some (.ref a))
    (N : News h₀ h₀.objs.size s.heap [(h₀.objs.size + 1 + 1, oc), (h₀.objs.size + 1, op)]) (hc : oc.data = .cell cv) (hp : op.data = .cell pv) (hE : PassesOwn (model pg w) (lA h₀ fa cd) (lenv h₀ fa cd) E)
    (ret : ∀ s' m', Fr h₀ h₀.objs.size s'.heap m' → (AllBare s.gens → AllBare s'.gens) → s'.os = s.os → Q (.ret (.bool true)) s') :
    wpAny (model pg w) (lA h₀ fa cd) (execs lB (lenv h₀ fa cd)) Q E s := by
  have hns := nums_rng xs
  have hnl := nums_len xs
  have hsm := sum_rng _ hns
  rw [lB0]
  refine wpAny_execs_cons (st0 K0 X S1 T hL hI hlen F hm N fun D ys h1 tk1 m1 a1 F1 N1 I1 l1 => ?_)
  generalize numsOf xs = ns at hns hnl hsm I1 l1
  show wpAny _ _ (execs lB.tail _) Q E _
  rw [lB1]
  refine wpAny_execs_cons (st1 K0 X S1 T I1 l1 hnl F1 a1 N1 fun x t h2 tk2 m2 a2 b2 F2 N2 hx htk => ?_)
  show wpAny _ _ (execs lB.tail.tail _) Q E _
  rw [lB2]
  refine wpAny_execs_cons (st2 (a := slash0 ns) K0 X S1 T F2 a2 b2 hx (slash0_rng ns) htk N2 hc hp fun y ty op3 h3 tk3 m3 a3 b3 F3 N3 hp3 hy => ?_)
  show wpAny _ _ (execs lB.tail.tail.tail _) Q E _
  rw [lB3]
  refine wpAny_execs_cons (st3 K0 X S1 T F3 a3 b3 N3 hc hp3 fun e h4 tk4 m4 a4 b4 c4 F4 N4 hDe => ?_)
  show wpAny _ _ (execs lB.tail.tail.tail.tail _) Q E _
  rw [lB4]
  have nl : ∀ {zs : List Value} {k : Nat} {o : Obj} {v : Option Value}, o.data = .cell v → W.listOf zs.toArray k ≠ o := fun ho h => by rw [← h] at ho; cases ho
  have nD : ∀ {o : Obj} {v : Option Value}, o.data = .cell v → LCg.lst ys ≠ o := fun ho h => by rw [← h] at ho; cases ho
  have dc1 : @Ne Nat D (h₀.objs.size + 1 + 1) := ne_of_obj N4 (.tail _ (.head _)) (.tail _ (.tail _ (.head _))) (nD hc)
  have dc2 : @Ne Nat D (h₀.objs.size + 1) := ne_of_obj N4 (.tail _ (.head _)) (.tail _ (.tail _ (.tail _ (.head _)))) (nD hp3)
  have ec1 : @Ne Nat e (h₀.objs.size + 1 + 1) := ne_of_obj N4 (.head _) (.tail _ (.tail _ (.head _))) (nl (zs := []) hc)
  have ec2 : @Ne Nat e (h₀.objs.size + 1) := ne_of_obj N4 (.head _) (.tail _ (.tail _ (.tail _ (.head _)))) (nl (zs := []) hp3)
  refine wpAny_execs_cons (st4 K0 X S1 T I1 l1 hnl hns F4 a4 b4 c4 hx hy N4 ⟨hDe, dc1, dc2⟩ ⟨ec1, ec2⟩ hc hp3 hE fun h5 tk5 m5 news5 hJ F5 N5 => ?_)
  show wpAny _ _ (execs lB.tail.tail.tail.tail.tail _) Q E _
  obtain ⟨a5, x5, tx5, y5, ty5, op5, es, k5, b5, c5, rfl, hp5, ⟨zs, hz, hf⟩, hxl, hyl, hel⟩ := hJ
  rw [List.take_length] at hf
  have hzl : es.length = zs.length := ints_len hz
  rw [lB5]
  refine wpAny_execs_cons (st5 (ts := []) (ns := []) (zs := []) (kt := 0) K0 X S1 T F5 a5 b5 c5 N5 hp5 (by omega) (by simp only [List.size_toArray, sizeLine_eq]; omega) ⟨hDe, ec1, ec2⟩ fun t6 h6 tk6 m6 a6 b6 c6 F6 N6 => ?_)
  show wpAny _ _ (execs lB.tail.tail.tail.tail.tail.tail _) Q E _
  rw [List.push_toArray] at N6
  have hz6 : IntsAre (es ++ [.int y5.length t6]) (endsOf zs y5) := ints_snoc hz _ _
  have hez : (es ++ [Value.int (y5.length : Int) t6]).length = (endsOf zs y5).length := ints_len hz6
  have hZl : 1 ≤ (endsOf zs y5).length ∧ (endsOf zs y5).length ≤ 17 := by unfold endsOf; rw [List.length_append, List.length_singleton]; omega
  rw [lB6]
  refine wpAny_execs_cons (st6 (ts := []) (zs := []) (kt := 0) K0 X S1 T F6 a6 b6 c6 N6 hp5 (by omega) (by omega) I1 l1 hnl fun t7 h7 tk7 m7 a7 b7 c7 F7 N7 => ?_)
  show wpAny _ _ (execs lB.tail.tail.tail.tail.tail.tail.tail _) Q E _
  obtain ⟨tn, htn, htn3⟩ := fmod_nat (ns.length : Int) (k := 3) (by decide)
  have htn : (ns.length : Int).fmod 3 = (tn : Int) := htn
  generalize hXX : x5 ++ Txt.mul (Str.ofString "/") ((ns.length : Int).fmod 3) = X6 at b7
  have hX6 : cl X6 = cl x5 ++ List.replicate tn 47 := by
    rw [← hXX, cl_append, cl_mul (c := 47) rfl, htn, Int.toNat_natCast]
  have hX6l : X6.length ≤ 100 := by
    rw [cl_len, hX6, List.length_append, List.length_replicate, ← cl_len]; omega
  rw [lB7]
  refine wpAny_execs_cons (st7 K0 X S1 T F7 a7 b7 c7 N7 hp5 (by omega) hz6 hez hZl fun tl ts kt h8 tk8 m8 a8 b8 c8 d8 F8 N8 hts => ?_)
  show wpAny _ _ (execs lB.tail.tail.tail.tail.tail.tail.tail.tail _) Q E _
  obtain ⟨pY1, pY2, pT1, pT2⟩ := plain_told hf hX6
  have hts : StrsV ts ((endsOf zs y5).reverse.map (cutAt y5)) := hts
  rw [lB8]
  refine wpAny_execs_cons (st8 K0 X S1 T F8 a8 b8 c8 d8 N8 hp5 (by omega) I1 l1 hnl hns hz6 hez hZl ⟨hsm.1, by omega⟩ fun t9 h9 tk9 m9 a9 b9 c9 d9 e9 F9 N9 => ?_)
  show wpAny _ _ (execs lB.tail.tail.tail.tail.tail.tail.tail.tail.tail _) Q E _
  have hkp := fmod_rng ns.sum (k := ((endsOf zs y5).length : Int)) (by omega)
  generalize ns.sum.fmod ((endsOf zs y5).length : Int) = kp at e9 hkp
  rw [lB9]
  refine wpAny_execs_cons (st9 (ts := ts) (ns := []) (kt := kt) K0 X S1 T F9 a9 b9 c9 d9 e9 N9 hp5 (by omega) hz6 hez hkp hZl fun t10 h10 tk10 m10 a10 b10 c10 d10 e10 f10 F10 N10 => ?_)
  show wpAny _ _ (execs lB.tail.tail.tail.tail.tail.tail.tail.tail.tail.tail _) Q E _
  generalize hO : Txt.slice y5 none (some ((endsOf zs y5).getD kp.toNat 0)) ++ Str.ofString "//y" = O at f10
  have hOl : O.length ≤ 110 := by
    have h1 := PyProof.Txt.length_slice_le y5 none (some ((endsOf zs y5).getD kp.toNat 0))
    have h2 : O.length = (Txt.slice y5 none (some ((endsOf zs y5).getD kp.toNat 0))).length + 3 := by
      rw [← hO, cl_len, cl_append, List.length_append, ← cl_len]; rfl
    omega
  rw [lB10]
  refine wpAny_execs_cons (st10 K0 X S1 T F10 a10 b10 c10 d10 e10 f10 N10 hp5 hc (by omega) hz6 hez hkp hZl ⟨dc1, ec1, ne_of_obj N10 (.tail _ (.tail _ (.head _))) (.tail _ (.tail _ (.tail _ (.head _)))) (nl hc)⟩ fun cu cs kc oc11 h11 tk11 m11 a11 b11 c11 d11 f11 F11 N11 hcd11 hcs => ?_)
  show wpAny _ _ (execs lB.tail.tail.tail.tail.tail.tail.tail.tail.tail.tail.tail _) Q E _
  rw [lB11]
  refine wpAny_execs_cons (st11 K0 X S1 T F11 a11 b11 c11 d11 f11 N11 fun h12 tk12 m12 hJ12 F12 N12 => ?_)
  show wpAny _ _ (execs lB.tail.tail.tail.tail.tail.tail.tail.tail.tail.tail.tail.tail _) Q E _
  have hlow : ∀ c ∈ cl O, c = 47 ∨ (97 ≤ c ∧ c ≤ 122) := (plain_cuts (g := ⟨(greatOf (cl O) 0).toArray⟩) hf hkp hO.symm rfl).1
  rw [lB12]
  refine wpAny_execs_cons (st12 K0 X S1 T F12 hJ12 hOl hlow N12 hE fun h13 tk13 m13 hJ13 F13 N13 => ?_)
  show wpAny _ _ (execs lB.tail.tail.tail.tail.tail.tail.tail.tail.tail.tail.tail.tail.tail _) Q E _
  obtain ⟨_, _, _, _, _, _, g, tg, hv6, hgc, hgl⟩ := id hJ13
  rw [List.take_length] at hgc
  have hOl2 : (cl O).length ≤ 110 := by rw [← cl_len]; exact hOl
  obtain ⟨_, n2, hn2, pY3, pC, pG⟩ := plain_cuts hf hkp hO.symm hgc
  have hcs : StrsV cs (ancL (prep g) n2) := pC ▸ hcs
  have plen : ∀ z : Str, (prep z).length ≤ 4096 → True := fun _ _ => trivial
  have hpX : (prep X6).length ≤ 4096 := by
    rw [cl_len, prep_cl, hX6, prepL_app, prep_slashes, List.length_append, List.length_replicate]
    have : prepL (cl x5) = cl y5 := by
      obtain ⟨st, st', h⟩ := inv_all ns
      rw [hf] at h
      exact h.prep
    rw [this, ← cl_len]; omega
  have hpg : (prep g).length ≤ 4096 := by rw [cl_len, pG, ← cl_len]; omega
  generalize hn : (endsOf zs y5).length = n at *
  have htl : (tl, W.listOf ts.toArray kt) ∈ [(D, LCg.lst ys), (e, W.listOf (es ++ [Value.int (y5.length : Int) t6]).toArray (k5 + 1)), (tl, W.listOf ts.toArray kt), (cu, W.listOf cs.toArray kc), (h₀.objs.size + 1 + 1, oc11), (h₀.objs.size + 1, op5)] := .tail _ (.tail _ (.head _))
  have hcu : (cu, W.listOf cs.toArray kc) ∈ [(D, LCg.lst ys), (e, W.listOf (es ++ [Value.int (y5.length : Int) t6]).toArray (k5 + 1)), (tl, W.listOf ts.toArray kt), (cu, W.listOf cs.toArray kc), (h₀.objs.size + 1 + 1, oc11), (h₀.objs.size + 1, op5)] := .tail _ (.tail _ (.tail _ (.head _)))
  have hoc : (h₀.objs.size + 1 + 1, oc11) ∈ [(D, LCg.lst ys), (e, W.listOf (es ++ [Value.int (y5.length : Int) t6]).toArray (k5 + 1)), (tl, W.listOf ts.toArray kt), (cu, W.listOf cs.toArray kc), (h₀.objs.size + 1 + 1, oc11), (h₀.objs.size + 1, op5)] := .tail _ (.tail _ (.tail _ (.tail _ (.head _))))
  rw [lB13]
  refine wpAny_execs_cons (st13 K0 X S1 T F13 hJ13 N13 htl (by omega) pY1 hpX (by omega) (pT1 ▸ hts) fun s14 m14 hJ14 F14 N14 g14 o14 => ?_)
  show wpAny _ _ (execs lB.tail.tail.tail.tail.tail.tail.tail.tail.tail.tail.tail.tail.tail.tail _) Q E _
  rw [lB14]
  refine wpAny_execs_cons (st14 K0 X S1 T F14 hJ14 N14 htl (by omega) pY2 (by omega) (pT2 ▸ hts) fun s15 m15 hJ15 F15 N15 g15 o15 => ?_)
  show wpAny _ _ (execs lB.tail.tail.tail.tail.tail.tail.tail.tail.tail.tail.tail.tail.tail.tail.tail _) Q E _
  obtain ⟨_, _, _, _, _, _, g', tg', hv15, hgc', _⟩ := id hJ15
  obtain rfl : g' = g := cl_inj (by rw [hgc', List.take_length, hgc])
  rw [lB15]
  refine wpAny_execs_cons (st15 K0 X S1 T F15 hJ15 N15 hcu hoc hcd11 hv15 (by omega) pY3 hpg (by omega) hcs fun s16 m16 hJ16 hv16 F16 N16 g16 o16 => ?_)
  show wpAny _ _ (execs lB.tail.tail.tail.tail.tail.tail.tail.tail.tail.tail.tail.tail.tail.tail.tail.tail _) Q E _
  rw [lB16]
  refine wpAny_execs_cons (st16 K0 X S1 T F16 hJ16 N16 hv16 (by omega) (by omega) pY1 hpX (by omega) pY3 hpg (by omega) fun s17 m17 fr acc c hJ17 hfr F17 N17 nfr hS17 g17 o17 => ?_)
  show wpAny _ _ (execs lB.tail.tail.tail.tail.tail.tail.tail.tail.tail.tail.tail.tail.tail.tail.tail.tail.tail _) Q E _
  rw [lB17]
  obtain ⟨_, _, _, _, v4, _⟩ := id hJ17
  have hts2 : StrsV ts (ancL (prep X6) n) := pT1 ▸ hts
  refine wpAny_execs_cons (st17 K0 X S1 T F17 N17 hfr v4 (.head _) (.tail _ htl) (.tail _ hcu) (.tail _ hoc) hcd11 hS17 hts2 hcs (by simp [ancL]; omega) ?_ fun h18 tk18 F18 N18 => ?_)
  · unfold keptL
    simp only [hasUpto_all]
    rfl
  · show Q (.ret (.bool true)) _
    exact ret _ m17 F18 (fun hb => g17 (g16 (g15 (g14 hb)))) (o17.trans (o16.trans (o15.trans o14)))
end
end Mine
end
section
local macro_rules | `(tactic| walk_at "none") => `(tactic| fail)
local macro_rules | `(tactic| walk_at "none") => `(tactic| fail)
local macro_rules | `(tactic| walk_at "none") => `(tactic| fail)
local macro_rules | `(tactic| walk_at "none") => `(tactic| fail)
local macro_rules | `(tactic| walk_at "none") => `(tactic| fail)
local macro_rules | `(tactic| walk_at "none") => `(tactic| fail)
local macro_rules | `(tactic| walk_at "none") => `(tactic| fail)
local macro_rules | `(tactic| walk_at "none") => `(tactic| fail)
local macro_rules | `(tactic| walk_at "none") => `(tactic| fail)
open PySem PySem.W PyProof.Rows PySem.SeqAt PySem.Calls
set_option maxRecDepth 1000000 in
set_option maxHeartbeats 8000000 in
theorem PySem.Challenge.cw_ij0113_01_holds : PySem.Challenge.rw_ij0113_01.Holds := by
  refine Mine.hd ?_
  k_fill
  intro w s₀ s₁ mg mb G Y fa o pm cd doc dV kV ho hd hcd hD hmg hg args vals as hpre hlay hrd hwl hlo
  have KX : ((_ : Params → Frag) w.params).In _ := Y.1
  have hset := Y.2
  have X := (Ground.X G).1
  have V := (Ground.X G).2
  try w_nolog (first | (have GL := glob_more (Ground.glob G (by first | k_qdec | decide +kernel) (by first | k_qdec | decide +kernel)) V) | (have GL := glob_more (Ground.glob G (by decide +kernel)) V))
  refine Ground.open G ?_
  intro T B D TE TW
  try (refine guard_noD D (by decide +kernel) ?_; clear D)
  obtain ⟨_, _, M⟩ := bmod_of_top T
  have TA := at_of_top T
  try (obtain ⟨_, _, he, B0⟩ := based_of_top T rfl hmg ho hd; have he' : cd = _ := he; subst he'; clear he)
  clear hmg
  wrow_args hpre hlay hrd hwl hlo
  all_goals (
    first | refine callC_kw (enter_call ?_) | refine enter_call ?_ | refine callC_kw (enter_callW ?_) | refine enter_callW ?_ | w_how
    w_top on
    have K0 := below_caller (Top.heap T)
    w_call any ho hd hcd hD T F
    clear hd TA
    k_drop
    skip)
  all_goals try k_fold
  refine Mine.law_body K0 KX hset T (by assumption) (by assumption) (by assumption) F (by rfl) (by assumption) (by assumption) (by assumption) (by passes_own) fun s' m' F' hab hos => ?_
  refine ⟨.inl ⟨.bool true, .bool true, [], rfl, fun cls => ?_, .bool true, ?_, fun _ => ⟨.nil, fun _ h => nomatch h⟩⟩, .of_keep F'.keep, hos, hab (.of_eq hg)⟩
  · rfl
  · first | (refine' postW_of ?s ?v ?e; (case s => o_shape); (case v => wtm_val); (case e => w_fin)) | kernel_rfl
end
